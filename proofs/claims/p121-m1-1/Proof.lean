import JvmDerived
import JvmDerived.Pilot.@@N@@Statement
import JvmDerived.Pilot.@@N@@Code
set_option linter.unusedVariables false
set_option linter.unusedSimpArgs false
namespace Jvm.RoadKit
open Sem ClassFile Op Lib Jvm.Stand Jvm.Free Jvm.LawKit
section New
variable {p : Program} {l : Launch} {e : Env} {R : Room} {s : State} {m : MethodId} {args : Array Value} {below : List Frame} {meth : Method} {c : Code} {T : State} {locs : List Loc} {cells slots : Nat}
theorem retI (X : Stand p l e R s m args below meth c T locs cells slots) (hx : p.tables.exec = Jvm.exec) {pc : Nat} {Ls : Array Slot} {z : Int32} {rest : List Value} (hret : meth.sig.returnType = some .int) (hd : decode c.code pc = .ok (.ireturn, 1)) {fs : List Frame}
    (hl : ∀ (f : JFrame) (acts : List Action), f.method = m → f.locked = none → f.entered = [] → (doReturn e (T.setTop f) acts (some (.int z))).1 = T.setFrames fs) : Steps p.tables e below (T.setTop (mkF m pc Ls (.int z :: rest))) (T.setFrames fs) := by
  have hm' : T.vm.method? m = some meth := X.method'
  have hn : narrow .int (.int z) = .int z := rfl
  show Steps p.tables e below (T.setTop { method := m, pc := pc, locals := Ls, stack := _ :: rest, locked := none }) _
  jvm_step X.here [X.here.top, hx, hd, hm', hret, hn]
  first | (intro acts; rw [hl _ acts rfl rfl rfl]) | rw [hl _ _ rfl rfl rfl]
  exact Steps.refl _
end New
end Jvm.RoadKit

namespace Jvm.RoadKit
open Sem ClassFile Op Lib Jvm.Stand Jvm.Free Jvm.LawKit
section Own
variable {p : Program} {l : Launch} {e : Env} {R : Room} {s : State} {m : MethodId} {args : Array Value} {below : List Frame} {meth : Method} {c : Code} {T : State} {locs : List Loc} {cells slots : Nat} {Z : State} {h : Heap} {a : Addr}
theorem own_gcls (X : Stand p l e R s m args below meth c T locs cells slots) (hx : p.tables.exec = Jvm.exec) (hZ : Z.Warmed39 s.vm) {a0 : Array Value} {own C : String} {index : Nat} (hown : s.vm.findClass own = some m.cls)
    (w1 : (Cond.methodLink own index ⟨"java/lang/Object", "getClass", "()Ljava/lang/Class;"⟩).before a0 Z = true) (w2 : (Cond.declares ⟨"java/lang/Object", "getClass", "()Ljava/lang/Class;"⟩).before a0 Z = true) (w4 : (Cond.selects C ⟨"java/lang/Object", "getClass", "()Ljava/lang/Class;"⟩ ⟨"java/lang/Object", "getClass", "()Ljava/lang/Class;"⟩).before a0 Z = true)
    (w5 : (Cond.instanceMethod ⟨"java/lang/Object", "getClass", "()Ljava/lang/Class;"⟩).before a0 Z = true) (w6 : (Cond.native ⟨"java/lang/Object", "getClass", "()Ljava/lang/Class;"⟩).before a0 Z = true) (eT : T.heap = h) (E : Exa Z h a C) {mr : Addr} (M : Mir Z C mr)
    {g : JFrame} (hg : g.method = m) (hsize : g.locals.size = c.maxLocals) {rest : List Value} (hs : g.stack = .ref a :: rest) (hd : decode c.code g.pc = .ok (.invokevirtual index, 3)) (hf : 1 ≤ R.frames) {W : Nat} (hW : 2 * g.monitorRoom + (rest.map fun v => v.category).sum ≤ W) (hl : W + (nativeFrameWords "java/lang/Object" "getClass" 1 + 11) ≤ R.locals) :
    ∃ T', Stand p l e R s m args below meth c T' locs cells slots ∧ T'.heap = h ∧ ∀ target, Steps p.tables e below (T'.setTop { g with pc := g.pc + 3, stack := .ref mr :: rest }) target → Steps p.tables e below (T.setTop g) target := by
  obtain ⟨cB, kB, i1, i2, i3⟩ := isOf hZ eT E
  obtain ⟨cc, kc, m1, m2, m3, -⟩ := M
  rw [hZ.alike.findClass] at i1
  cases i1.symm.trans m1
  obtain ⟨k', q, ek⟩ := hZ.alike.2.2 _ _ m2
  obtain ⟨vm', X', st⟩ := X.getClassOf hx hown (mvT hZ w1) (mvT hZ w2) (notFace_of_selects (args := #[]) (mvT hZ w4)) (mvT hZ w4) (mvT hZ w5) (mvT hZ w6) (by rw [hZ.alike.findClass]; exact m1) i3 q (by rw [ek]; exact m3) hg hsize hs hd hf (by omega)
  exact ⟨_, X', eT, st⟩
theorem own_ldcM (X : Stand p l e R s m args below meth c T locs cells slots) (hx : p.tables.exec = Jvm.exec) (hZ : Z.Warmed39 s.vm) {a0 : Array Value} {own C : String} {index : Nat} (hown : s.vm.findClass own = some m.cls)
    (w : (Cond.classLink own index C).before a0 Z = true) {mr : Addr} (M : Mir Z C mr) (eT : T.heap = h) {g : JFrame} (hg : g.method = m) (hd : decode c.code g.pc = .ok (.ldc index, 2)) :
    ∃ T', Stand p l e R s m args below meth c T' locs cells slots ∧ T'.heap = h ∧ ∀ target, Steps p.tables e below (T'.setTop { g with pc := g.pc + 2, stack := .ref mr :: g.stack }) target → Steps p.tables e below (T.setTop g) target := by
  obtain ⟨cc, kc, m1, m2, m3, -⟩ := M
  obtain ⟨k', q, ek⟩ := hZ.alike.2.2 _ _ m2
  have hm' : k'.mirror = some mr := by rw [ek]; exact m3
  have hev : (Term.mirror C).eval args s none [] s = some (.ref mr) := by simp [Term.eval, hZ.alike.findClass, m1, q, hm']
  obtain ⟨vm', X', st⟩ := X.ldcMirror hx hown (mvT hZ w) hev hg hd
  exact ⟨_, X', eT, st⟩
theorem own_stol {b : Addr} : ∀ us : List Value, (∀ v ∈ us, v = .null) → StoL Z h b us
  | [], _ => trivial
  | v :: r, H => ⟨Or.inl (H v (List.mem_cons_self ..)), own_stol r fun w hw => H w (List.mem_cons_of_mem _ hw)⟩
end Own
end Jvm.RoadKit

namespace Jvm.Pilot.@@N@@
open Jvm Jvm.ClassFile Sem Op Lib Jvm.Free Jvm.Stand Jvm.LawKit Jvm.RoadKit Bundle Jvm.Pilot.@@N@@.Jvm.D
theorem own_nb (x : Int32) : nar .byte (x.toInt8.toInt32) = x.toInt8.toInt32 := by
  show (x.toInt8.toInt32).toInt8.toInt32 = x.toInt8.toInt32
  simp
theorem own_fb {x : Int32} (h : nar .byte x = x) : fits .byte (.int x) = true := by
  have q := fits_nar_byte x
  have e : x.toInt8.toInt32 = x := h
  rwa [e] at q
theorem own_nc (x : Int32) : nar .char (x.toUInt32.toUInt16.toUInt32.toInt32) = x.toUInt32.toUInt16.toUInt32.toInt32 := by
  show (x.toUInt32.toUInt16.toUInt32.toInt32).toUInt32.toUInt16.toUInt32.toInt32 = x.toUInt32.toUInt16.toUInt32.toInt32
  apply Int32.toInt_inj.mp
  have h1 := c_i2c x
  have h2 := c_i2c (x.toUInt32.toUInt16.toUInt32.toInt32)
  omega
theorem own_fc {x : Int32} (h : nar .char x = x) : fits .char (.int x) = true := by
  have q := fits_nar_char x
  rwa [h] at q
theorem own_getall (l : List Value) (d : Value) (h : ∀ x ∈ l, x = d) (i : Nat) : l.getD i d = d := by
  rw [List.getD_eq_getElem?_getD]
  cases hi : l[i]? with
  | none => rfl
  | some x => exact h x (List.mem_of_getElem? hi)
theorem own_cpall (d : Value) (a b n m : Nat) (s : Nat) (i : Nat) : ([] : List Value).getD i d = ((([] ++ List.replicate m d).take a ++ ((List.range n).map fun i => ([] : List Value).getD (s + i) d) ++ ([] ++ List.replicate m d).drop b)).getD i d := by
  rw [own_getall [] d (fun x hx => nomatch hx), own_getall]
  intro x hx
  simp only [List.nil_append, List.mem_append, List.mem_map] at hx
  rcases hx with (hx | ⟨j, -, rfl⟩) | hx
  · exact List.eq_of_mem_replicate (List.mem_of_mem_take hx)
  · exact own_getall [] d (fun x hx => nomatch hx) _
  · exact List.eq_of_mem_replicate (List.mem_of_mem_drop hx)
theorem own_nulls (n s : Nat) : ∀ v ∈ ((List.range n).map fun i => ([] : List Value).getD (s + i) .null), v = .null := by
  intro v hv
  simp only [List.mem_map] at hv
  obtain ⟨j, -, rfl⟩ := hv
  exact own_getall [] _ (fun x hx => nomatch hx) _
theorem pn0 : plainFor (⟨"java/lang/Math", "min", "(II)I"⟩ : MethodName) = true := by decide +kernel
theorem d11_0 : decode jdk_29_method_69_code 0 = .ok (.iload_n 0, 1) := by decide +kernel
theorem d11_1 : decode jdk_29_method_69_code 1 = .ok (.iload_n 1, 1) := by decide +kernel
theorem d11_2 : decode jdk_29_method_69_code 2 = .ok (.if_icmp .gt 7, 3) := by decide +kernel
theorem d11_5 : decode jdk_29_method_69_code 5 = .ok (.iload_n 0, 1) := by decide +kernel
theorem d11_6 : decode jdk_29_method_69_code 6 = .ok (.goto 4, 3) := by decide +kernel
theorem d11_10 : decode jdk_29_method_69_code 10 = .ok (.ireturn, 1) := by decide +kernel
theorem ef_11v32 (m : MethodId) (x0 : Int32) (x1 : Int32) : entryFrame m #[(.int x0), (.int x1)] 2 = mkF m 0 #[.val (.int x0), .val (.int x1)] [] := by first | (simp [entryFrame, mkF, argsToLocals, Value.category]; done) | rfl
def Q11v32 (Z : State)  (h0 : Heap) (n0 : Nat) (v : Option Value) (h : Heap) (L : List Loc) : Prop := v = some (.int (32 : Int32)) ∧ Fr n0 L ∧ h = h0
set_option maxRecDepth 65536 in
set_option maxHeartbeats 40000000 in
theorem rm11v32 (l : Launch) (Z : State) (a0 : Array Value) (hw : ∀ d ∈ tables_1, d.before a0 Z = true) (ws : List Jvm.Cond)  (h0 : Heap) (n0 : Nat) (Z0 : n0 ≤ h0.size) :
    MetFree l (⟨"java/lang/Math", "min", "(II)I"⟩ : MethodName) (head1 (Jvm.Cond.code (⟨"java/lang/Math", "min", "(II)I"⟩ : MethodName) jdk_29_method_69_code 2 (some .int) :: ws) ({ frames := 0, cells := 0, slots := 0, locals := 0 } : Room)) (fun a U => a = #[(.int (32 : Int32)), (.int (64 : Int32))] ∧ Z.Warmed39 U.vm ∧ U.heap = h0) (fun _ _ _ _ _ => True) (fun _ U o U' => ∃ v L, o = .returned v ∧ Q11v32 Z  h0 n0 v U'.heap L ∧ FrameEnd U o U' L ({ frames := 0, cells := 0, slots := 0, locals := 0 } : Room).cells ({ frames := 0, cells := 0, slots := 0, locals := 0 } : Room).slots) := by
  refine MetFree.of_bodySF (Jvm.Free.JP.mathPlain rfl (by decide +kernel)) hisR ?_
  intro p e s m args below meth c s₁ Bd hml0 hP hK
  obtain ⟨rfl, hZ, hh⟩ := hP
  have hx := Bd.exec
  have hby := Bd.bytes
  have hml : c.maxLocals = 2 := hml0
  have hown : s.vm.findClass "java/lang/Math" = some m.cls := findClass_of_methodNamed Bd.named
  have hnm := (name_of_methodNamed Bd.named Bd.method).1
  have X0 : Stand p l e ({ frames := 0, cells := 0, slots := 0, locals := 0 } : Room) s m #[(.int (32 : Int32)), (.int (64 : Int32))] below meth c s₁ [] 0 0 := Stand.of_body Bd
  have e0 : s₁.heap = h0 := by rw [← hh, Bd.state]; rfl
  have N0 := Fr.nil n0
  have pre0 : ∀ t, Steps p.tables e below (s₁.setTop (mkF m 0 #[iv (32 : Int32), iv (64 : Int32)] [])) t → Steps p.tables e below (s₁.setTop (entryFrame m #[(.int (32 : Int32)), (.int (64 : Int32))] 2)) t := fun t k => castTop (ef_11v32 m (32 : Int32) (64 : Int32)) k
  have pre1 : ∀ t, Steps p.tables e below (s₁.setTop (mkF m 10 #[iv (32 : Int32), iv (64 : Int32)] [(.int (32 : Int32))])) t → Steps p.tables e below (s₁.setTop (entryFrame m #[(.int (32 : Int32)), (.int (64 : Int32))] 2)) t := by
    intro t kt
    refine pre0 _ ?_
    show Steps p.tables e below (s₁.setTop (mkF m 0 #[iv (32 : Int32), iv (64 : Int32)] [])) _
    refine XS.iloadN X0.here hx rfl (hb hby d11_0) rfl ?_
    refine XS.iloadN X0.here hx rfl (hb hby d11_1) rfl ?_
    refine XS.icmpNo X0.here hx rfl (hb hby d11_2) rfl (flt (by decide)).2.2.1 ?_
    refine XS.iloadN X0.here hx rfl (hb hby d11_5) rfl ?_
    refine XS.goto X0.here hx rfl (pc0 := 6) (pc' := 10) rfl (hb hby d11_6) (by decide) (by decide) ?_
    exact kt
  obtain ⟨fs, hr, hrun, hended, hW, hsame⟩ := X0.leave (v := some (.int (32 : Int32))) (fun h => by rw [Bd.returns] at h; cases h)
  refine ⟨_, _, pre1 _ ?_, hrun, hended, _, _, rfl, ?_, ⟨_, rfl⟩, hW, hsame.mono (by decide) (by decide)⟩
  · show Steps p.tables e below (s₁.setTop (mkF m 10 #[iv (32 : Int32), iv (64 : Int32)] [(.int (32 : Int32))])) _
    exact retI X0 hx Bd.returns (hb hby d11_10) hr
  · show Q11v32 Z  h0 n0 _ s₁.heap _
    rw [e0]
    exact ⟨rfl, N0, rfl⟩

theorem ef_11v64 (m : MethodId) (x0 : Int32) (x1 : Int32) : entryFrame m #[(.int x0), (.int x1)] 2 = mkF m 0 #[.val (.int x0), .val (.int x1)] [] := by first | (simp [entryFrame, mkF, argsToLocals, Value.category]; done) | rfl
def Q11v64 (Z : State)  (h0 : Heap) (n0 : Nat) (v : Option Value) (h : Heap) (L : List Loc) : Prop := v = some (.int (64 : Int32)) ∧ Fr n0 L ∧ h = h0
set_option maxRecDepth 65536 in
set_option maxHeartbeats 40000000 in
theorem rm11v64 (l : Launch) (Z : State) (a0 : Array Value) (hw : ∀ d ∈ tables_1, d.before a0 Z = true) (ws : List Jvm.Cond)  (h0 : Heap) (n0 : Nat) (Z0 : n0 ≤ h0.size) :
    MetFree l (⟨"java/lang/Math", "min", "(II)I"⟩ : MethodName) (head1 (Jvm.Cond.code (⟨"java/lang/Math", "min", "(II)I"⟩ : MethodName) jdk_29_method_69_code 2 (some .int) :: ws) ({ frames := 0, cells := 0, slots := 0, locals := 0 } : Room)) (fun a U => a = #[(.int (64 : Int32)), (.int (128 : Int32))] ∧ Z.Warmed39 U.vm ∧ U.heap = h0) (fun _ _ _ _ _ => True) (fun _ U o U' => ∃ v L, o = .returned v ∧ Q11v64 Z  h0 n0 v U'.heap L ∧ FrameEnd U o U' L ({ frames := 0, cells := 0, slots := 0, locals := 0 } : Room).cells ({ frames := 0, cells := 0, slots := 0, locals := 0 } : Room).slots) := by
  refine MetFree.of_bodySF (Jvm.Free.JP.mathPlain rfl (by decide +kernel)) hisR ?_
  intro p e s m args below meth c s₁ Bd hml0 hP hK
  obtain ⟨rfl, hZ, hh⟩ := hP
  have hx := Bd.exec
  have hby := Bd.bytes
  have hml : c.maxLocals = 2 := hml0
  have hown : s.vm.findClass "java/lang/Math" = some m.cls := findClass_of_methodNamed Bd.named
  have hnm := (name_of_methodNamed Bd.named Bd.method).1
  have X0 : Stand p l e ({ frames := 0, cells := 0, slots := 0, locals := 0 } : Room) s m #[(.int (64 : Int32)), (.int (128 : Int32))] below meth c s₁ [] 0 0 := Stand.of_body Bd
  have e0 : s₁.heap = h0 := by rw [← hh, Bd.state]; rfl
  have N0 := Fr.nil n0
  have pre0 : ∀ t, Steps p.tables e below (s₁.setTop (mkF m 0 #[iv (64 : Int32), iv (128 : Int32)] [])) t → Steps p.tables e below (s₁.setTop (entryFrame m #[(.int (64 : Int32)), (.int (128 : Int32))] 2)) t := fun t k => castTop (ef_11v64 m (64 : Int32) (128 : Int32)) k
  have pre1 : ∀ t, Steps p.tables e below (s₁.setTop (mkF m 10 #[iv (64 : Int32), iv (128 : Int32)] [(.int (64 : Int32))])) t → Steps p.tables e below (s₁.setTop (entryFrame m #[(.int (64 : Int32)), (.int (128 : Int32))] 2)) t := by
    intro t kt
    refine pre0 _ ?_
    show Steps p.tables e below (s₁.setTop (mkF m 0 #[iv (64 : Int32), iv (128 : Int32)] [])) _
    refine XS.iloadN X0.here hx rfl (hb hby d11_0) rfl ?_
    refine XS.iloadN X0.here hx rfl (hb hby d11_1) rfl ?_
    refine XS.icmpNo X0.here hx rfl (hb hby d11_2) rfl (flt (by decide)).2.2.1 ?_
    refine XS.iloadN X0.here hx rfl (hb hby d11_5) rfl ?_
    refine XS.goto X0.here hx rfl (pc0 := 6) (pc' := 10) rfl (hb hby d11_6) (by decide) (by decide) ?_
    exact kt
  obtain ⟨fs, hr, hrun, hended, hW, hsame⟩ := X0.leave (v := some (.int (64 : Int32))) (fun h => by rw [Bd.returns] at h; cases h)
  refine ⟨_, _, pre1 _ ?_, hrun, hended, _, _, rfl, ?_, ⟨_, rfl⟩, hW, hsame.mono (by decide) (by decide)⟩
  · show Steps p.tables e below (s₁.setTop (mkF m 10 #[iv (64 : Int32), iv (128 : Int32)] [(.int (64 : Int32))])) _
    exact retI X0 hx Bd.returns (hb hby d11_10) hr
  · show Q11v64 Z  h0 n0 _ s₁.heap _
    rw [e0]
    exact ⟨rfl, N0, rfl⟩

theorem ef_11v16 (m : MethodId) (x0 : Int32) (x1 : Int32) : entryFrame m #[(.int x0), (.int x1)] 2 = mkF m 0 #[.val (.int x0), .val (.int x1)] [] := by first | (simp [entryFrame, mkF, argsToLocals, Value.category]; done) | rfl
def Q11v16 (Z : State)  (h0 : Heap) (n0 : Nat) (v : Option Value) (h : Heap) (L : List Loc) : Prop := v = some (.int (16 : Int32)) ∧ Fr n0 L ∧ h = h0
set_option maxRecDepth 65536 in
set_option maxHeartbeats 40000000 in
theorem rm11v16 (l : Launch) (Z : State) (a0 : Array Value) (hw : ∀ d ∈ tables_1, d.before a0 Z = true) (ws : List Jvm.Cond)  (h0 : Heap) (n0 : Nat) (Z0 : n0 ≤ h0.size) :
    MetFree l (⟨"java/lang/Math", "min", "(II)I"⟩ : MethodName) (head1 (Jvm.Cond.code (⟨"java/lang/Math", "min", "(II)I"⟩ : MethodName) jdk_29_method_69_code 2 (some .int) :: ws) ({ frames := 0, cells := 0, slots := 0, locals := 0 } : Room)) (fun a U => a = #[(.int (16 : Int32)), (.int (32 : Int32))] ∧ Z.Warmed39 U.vm ∧ U.heap = h0) (fun _ _ _ _ _ => True) (fun _ U o U' => ∃ v L, o = .returned v ∧ Q11v16 Z  h0 n0 v U'.heap L ∧ FrameEnd U o U' L ({ frames := 0, cells := 0, slots := 0, locals := 0 } : Room).cells ({ frames := 0, cells := 0, slots := 0, locals := 0 } : Room).slots) := by
  refine MetFree.of_bodySF (Jvm.Free.JP.mathPlain rfl (by decide +kernel)) hisR ?_
  intro p e s m args below meth c s₁ Bd hml0 hP hK
  obtain ⟨rfl, hZ, hh⟩ := hP
  have hx := Bd.exec
  have hby := Bd.bytes
  have hml : c.maxLocals = 2 := hml0
  have hown : s.vm.findClass "java/lang/Math" = some m.cls := findClass_of_methodNamed Bd.named
  have hnm := (name_of_methodNamed Bd.named Bd.method).1
  have X0 : Stand p l e ({ frames := 0, cells := 0, slots := 0, locals := 0 } : Room) s m #[(.int (16 : Int32)), (.int (32 : Int32))] below meth c s₁ [] 0 0 := Stand.of_body Bd
  have e0 : s₁.heap = h0 := by rw [← hh, Bd.state]; rfl
  have N0 := Fr.nil n0
  have pre0 : ∀ t, Steps p.tables e below (s₁.setTop (mkF m 0 #[iv (16 : Int32), iv (32 : Int32)] [])) t → Steps p.tables e below (s₁.setTop (entryFrame m #[(.int (16 : Int32)), (.int (32 : Int32))] 2)) t := fun t k => castTop (ef_11v16 m (16 : Int32) (32 : Int32)) k
  have pre1 : ∀ t, Steps p.tables e below (s₁.setTop (mkF m 10 #[iv (16 : Int32), iv (32 : Int32)] [(.int (16 : Int32))])) t → Steps p.tables e below (s₁.setTop (entryFrame m #[(.int (16 : Int32)), (.int (32 : Int32))] 2)) t := by
    intro t kt
    refine pre0 _ ?_
    show Steps p.tables e below (s₁.setTop (mkF m 0 #[iv (16 : Int32), iv (32 : Int32)] [])) _
    refine XS.iloadN X0.here hx rfl (hb hby d11_0) rfl ?_
    refine XS.iloadN X0.here hx rfl (hb hby d11_1) rfl ?_
    refine XS.icmpNo X0.here hx rfl (hb hby d11_2) rfl (flt (by decide)).2.2.1 ?_
    refine XS.iloadN X0.here hx rfl (hb hby d11_5) rfl ?_
    refine XS.goto X0.here hx rfl (pc0 := 6) (pc' := 10) rfl (hb hby d11_6) (by decide) (by decide) ?_
    exact kt
  obtain ⟨fs, hr, hrun, hended, hW, hsame⟩ := X0.leave (v := some (.int (16 : Int32))) (fun h => by rw [Bd.returns] at h; cases h)
  refine ⟨_, _, pre1 _ ?_, hrun, hended, _, _, rfl, ?_, ⟨_, rfl⟩, hW, hsame.mono (by decide) (by decide)⟩
  · show Steps p.tables e below (s₁.setTop (mkF m 10 #[iv (16 : Int32), iv (32 : Int32)] [(.int (16 : Int32))])) _
    exact retI X0 hx Bd.returns (hb hby d11_10) hr
  · show Q11v16 Z  h0 n0 _ s₁.heap _
    rw [e0]
    exact ⟨rfl, N0, rfl⟩
theorem pn1 : plainName "java/util/Arrays" = true := by first | (simp [plainName, overriddenIn]; done) | decide +kernel
theorem d12_0 : decode jdk_65_method_124_code 0 = .ok (.iload_n 1, 1) := by decide +kernel
theorem d12_1 : decode jdk_65_method_124_code 1 = .ok (.aload_n 0, 1) := by decide +kernel
theorem d12_2 : decode jdk_65_method_124_code 2 = .ok (.arraylength, 1) := by decide +kernel
theorem d12_3 : decode jdk_65_method_124_code 3 = .ok (.if_icmp .ne 11, 3) := by decide +kernel
theorem d12_14 : decode jdk_65_method_124_code 14 = .ok (.iload_n 1, 1) := by decide +kernel
theorem d12_15 : decode jdk_65_method_124_code 15 = .ok (.newarray .long, 2) := by decide +kernel
theorem d12_17 : decode jdk_65_method_124_code 17 = .ok (.astore_n 2, 1) := by decide +kernel
theorem d12_18 : decode jdk_65_method_124_code 18 = .ok (.aload_n 0, 1) := by decide +kernel
theorem d12_19 : decode jdk_65_method_124_code 19 = .ok (.iconst 0, 1) := by decide +kernel
theorem d12_20 : decode jdk_65_method_124_code 20 = .ok (.aload_n 2, 1) := by decide +kernel
theorem d12_21 : decode jdk_65_method_124_code 21 = .ok (.iconst 0, 1) := by decide +kernel
theorem d12_22 : decode jdk_65_method_124_code 22 = .ok (.aload_n 0, 1) := by decide +kernel
theorem d12_23 : decode jdk_65_method_124_code 23 = .ok (.arraylength, 1) := by decide +kernel
theorem d12_24 : decode jdk_65_method_124_code 24 = .ok (.iload_n 1, 1) := by decide +kernel
theorem pd2 : parseMethodDescriptor "(II)I" = some ⟨[.int, .int], some .int⟩ := by decide +kernel
theorem d12_25 : decode jdk_65_method_124_code 25 = .ok (.invokestatic 304, 3) := by decide +kernel
theorem d12_28 : decode jdk_65_method_124_code 28 = .ok (.invokestatic 150, 3) := by decide +kernel
theorem d12_31 : decode jdk_65_method_124_code 31 = .ok (.aload_n 2, 1) := by decide +kernel
theorem d12_32 : decode jdk_65_method_124_code 32 = .ok (.areturn, 1) := by decide +kernel
theorem ef_12v32 (m : MethodId) (x0 : Addr) (x1 : Int32) : entryFrame m #[(.ref x0), (.int x1)] 3 = mkF m 0 #[.val (.ref x0), .val (.int x1), .unset] [] := by first | (simp [entryFrame, mkF, argsToLocals, Value.category]; done) | rfl
def Q12v32 (Z : State) (r0 : Addr) (k0 : ClassId) (h0 : Heap) (n0 : Nat) (v : Option Value) (h : Heap) (L : List Loc) : Prop := ∃ b k, v = some (.ref b) ∧ Fr n0 L ∧ Keep h0 h [] ∧ h0.size ≤ b ∧ Arv Z h b k .long (64 : Int32) [] (.long (0 : Int64)) ∧ Exa Z h b "[J"
set_option maxRecDepth 65536 in
set_option maxHeartbeats 40000000 in
theorem rm12v32 (l : Launch) (Z : State) (a0 : Array Value) (hw : ∀ d ∈ tables_1, d.before a0 Z = true) (ws : List Jvm.Cond) (r0 : Addr) (k0 : ClassId) (h0 : Heap) (n0 : Nat) (Z0 : n0 ≤ h0.size) (V_r0 : Arv Z h0 r0 k0 .long (32 : Int32) [] (.long (0 : Int64))) :
    MetFree l (⟨"java/util/Arrays", "copyOf", "([JI)[J"⟩ : MethodName) (head1 (Jvm.Cond.code (⟨"java/util/Arrays", "copyOf", "([JI)[J"⟩ : MethodName) jdk_65_method_124_code 3 (some (.array .long)) :: ws) ({ frames := 1, cells := 1, slots := 64, locals := 18 } : Room)) (fun a U => a = #[(.ref r0), (.int (64 : Int32))] ∧ Z.Warmed39 U.vm ∧ U.heap = h0) (fun _ _ _ _ _ => True) (fun _ U o U' => ∃ v L, o = .returned v ∧ Q12v32 Z r0 k0 h0 n0 v U'.heap L ∧ FrameEnd U o U' L ({ frames := 1, cells := 1, slots := 64, locals := 18 } : Room).cells ({ frames := 1, cells := 1, slots := 64, locals := 18 } : Room).slots) := by
  refine MetFree.of_bodySF (plainFor_of_name pn1) hisR ?_
  intro p e s m args below meth c s₁ Bd hml0 hP hK
  obtain ⟨rfl, hZ, hh⟩ := hP
  have hx := Bd.exec
  have hby := Bd.bytes
  have hml : c.maxLocals = 3 := hml0
  have hown : s.vm.findClass "java/util/Arrays" = some m.cls := findClass_of_methodNamed Bd.named
  have hnm := (name_of_methodNamed Bd.named Bd.method).1
  have X0 : Stand p l e ({ frames := 1, cells := 1, slots := 64, locals := 18 } : Room) s m #[(.ref r0), (.int (64 : Int32))] below meth c s₁ [] 0 0 := Stand.of_body Bd
  have e0 : s₁.heap = h0 := by rw [← hh, Bd.state]; rfl
  have N0 := Fr.nil n0
  have pre0 : ∀ t, Steps p.tables e below (s₁.setTop (mkF m 0 #[rv r0, iv (64 : Int32), .unset] [])) t → Steps p.tables e below (s₁.setTop (entryFrame m #[(.ref r0), (.int (64 : Int32))] 3)) t := fun t k => castTop (ef_12v32 m r0 (64 : Int32)) k
  obtain ⟨cl1, Ar1, -, S1, M1, -, -⟩ := id V_r0
  have pre2 : ∀ t, Steps p.tables e below (s₁.setTop (mkF m 15 #[rv r0, iv (64 : Int32), .unset] [(.int (64 : Int32))])) t → Steps p.tables e below (s₁.setTop (entryFrame m #[(.ref r0), (.int (64 : Int32))] 3)) t := by
    intro t kt
    refine pre0 _ ?_
    show Steps p.tables e below (s₁.setTop (mkF m 0 #[rv r0, iv (64 : Int32), .unset] [])) _
    refine XS.iloadN X0.here hx rfl (hb hby d12_0) rfl ?_
    refine XS.aloadN X0.here hx rfl (hb hby d12_1) rfl rfl ?_
    refine X0.arraylength hx (by rw [e0]; exact Ar1.1) (State.isArrayOf_alike hZ.alike Ar1.2.1) (g := (mkF m 2 #[rv r0, iv (64 : Int32), .unset] [(.ref r0), (.int (64 : Int32))])) rfl rfl (hb hby d12_2) _ ?_
    rw [len_of S1 M1]
    show Steps p.tables e below (s₁.setTop (mkF m 3 #[rv r0, iv (64 : Int32), .unset] [(.int (32 : Int32)), (.int (64 : Int32))])) _
    refine XS.icmpYes X0.here hx rfl (pc0 := 3) (pc' := 14) rfl (hb hby d12_3) rfl (feq (by decide)).2 (by decide) (by decide) ?_
    refine XS.iloadN X0.here hx rfl (hb hby d12_14) rfl ?_
    exact kt
  obtain ⟨T3, h3, k3, X3, e3, E3, A3, Ex3, st3⟩ := newPE X0 hx hZ (hw _ (List.mem_of_getElem? (i := 57) rfl)) e0 (g := (mkF m 15 #[rv r0, iv (64 : Int32), .unset] [(.int (64 : Int32))])) rfl (hb hby d12_15) rfl (by decide) (cap := 64) (by decide) (by decide) (by decide) (by decide) (ad := "[J") rfl
  obtain ⟨b3, g3⟩ : ∃ z, z = h0.size := ⟨_, rfl⟩
  rw [← g3] at A3 Ex3 st3
  have g_b3 : n0 ≤ b3 := Nat.le_trans (Nat.le_trans Z0 (Keep.refl h0 []).1) (Nat.le_of_eq g3.symm)
  have sz_b3 : h0.size ≤ b3 := Nat.le_trans (Keep.refl h0 []).1 (Nat.le_of_eq g3.symm)
  have V_b3 : Arv Z h3 b3 k3 .long (64 : Int32) [] (.long (0 : Int64)) := (Arv.new A3 (by decide))
  have K3 : Keep h0 h3 [] := (Keep.refl h0 []).ext E3
  obtain ⟨cl4, Ar4, -, S4, M4, -, -⟩ := id (V_r0.ext E3)
  have pre5 : ∀ t, Steps p.tables e below (T3.setTop (mkF m 25 #[rv r0, iv (64 : Int32), rv b3] [(.int (64 : Int32)), (.int (32 : Int32)), (.int (0 : Int32)), (.ref b3), (.int (0 : Int32)), (.ref r0)])) t → Steps p.tables e below (s₁.setTop (entryFrame m #[(.ref r0), (.int (64 : Int32))] 3)) t := by
    intro t kt
    refine pre2 _ ?_
    show Steps p.tables e below (s₁.setTop (mkF m 15 #[rv r0, iv (64 : Int32), .unset] [(.int (64 : Int32))])) _
    refine st3 _ ?_
    show Steps p.tables e below (T3.setTop (mkF m 17 #[rv r0, iv (64 : Int32), .unset] [(.ref b3)])) _
    refine XS.astoreN X3.here hx rfl (hb hby d12_17) rfl rfl (l' := #[rv r0, iv (64 : Int32), rv b3]) rfl ?_
    refine XS.aloadN X3.here hx rfl (hb hby d12_18) rfl rfl ?_
    refine XS.iconst X3.here hx rfl (hb hby d12_19) ?_
    refine XS.aloadN X3.here hx rfl (hb hby d12_20) rfl rfl ?_
    refine XS.iconst X3.here hx rfl (hb hby d12_21) ?_
    refine XS.aloadN X3.here hx rfl (hb hby d12_22) rfl rfl ?_
    show Steps p.tables e below (T3.setTop (mkF m 23 #[rv r0, iv (64 : Int32), rv b3] [(.ref r0), (.int (0 : Int32)), (.ref b3), (.int (0 : Int32)), (.ref r0)])) _
    refine X3.arraylength hx (by rw [e3]; exact Ar4.1) (State.isArrayOf_alike hZ.alike Ar4.2.1) (g := (mkF m 23 #[rv r0, iv (64 : Int32), rv b3] [(.ref r0), (.int (0 : Int32)), (.ref b3), (.int (0 : Int32)), (.ref r0)])) rfl rfl (hb hby d12_23) _ ?_
    rw [len_of S4 M4]
    show Steps p.tables e below (T3.setTop (mkF m 24 #[rv r0, iv (64 : Int32), rv b3] [(.int (32 : Int32)), (.int (0 : Int32)), (.ref b3), (.int (0 : Int32)), (.ref r0)])) _
    refine XS.iloadN X3.here hx rfl (hb hby d12_24) rfl ?_
    exact kt
  obtain ⟨_, _, ⟨T6, L6, k6, n6⟩, -, X6, ⟨Lc6, hQ6, l6, y6, z6⟩, st6⟩ := Jvm.LawKit.callS X3 hx (y := (⟨"java/lang/Math", "min", "(II)I"⟩ : MethodName)) hown (mvT hZ (hw _ (List.mem_of_getElem? (i := 78) rfl))) (mvT hZ (hw _ (List.mem_of_getElem? (i := 79) rfl))) (mvT hZ (hw _ (List.mem_of_getElem? (i := 80) rfl))) (mvT hZ (hw _ (List.mem_of_getElem? (i := 81) rfl))) (by decide) (backOf (W := 4) (rm11v32 l Z a0 hw []  h3 n0 (Nat.le_trans Z0 K3.1)) hZ (hw _ (List.mem_of_getElem? (i := 81) rfl)) (hw _ (List.mem_of_getElem? (i := 80) rfl)) (by decide) (by decide)) (g := (mkF m 25 #[rv r0, iv (64 : Int32), rv b3] [(.int (64 : Int32)), (.int (32 : Int32)), (.int (0 : Int32)), (.ref b3), (.int (0 : Int32)), (.ref r0)])) rfl (by rw [hml]; rfl) (argsL := [(.int (32 : Int32)), (.int (64 : Int32))]) (rest := [(.int (0 : Int32)), (.ref b3), (.int (0 : Int32)), (.ref r0)]) (lenOf pd2 rfl) rfl (by show 2 * 0 + _ ≤ _; exact Nat.le_of_eq rfl) (hb hby d12_25) (fun _ _ => ⟨rfl, e3, (by decide : 1 + 0 ≤ _), (by decide : 64 + 0 ≤ _)⟩)
  dsimp only [Pt.U, Pt.locs, Pt.cells, Pt.slots] at X6 l6 y6 z6 st6 hQ6
  subst l6 y6 z6
  obtain ⟨rfl, N6q, hh6⟩ := hQ6
  have N6 := Fr.app N0 N6q
  have pre7 : ∀ t, Steps p.tables e below (T6.setTop (mkF m 28 #[rv r0, iv (64 : Int32), rv b3] [(.int (32 : Int32)), (.int (0 : Int32)), (.ref b3), (.int (0 : Int32)), (.ref r0)])) t → Steps p.tables e below (s₁.setTop (entryFrame m #[(.ref r0), (.int (64 : Int32))] 3)) t := by
    intro t kt
    refine pre5 _ ?_
    show Steps p.tables e below (T3.setTop (mkF m 25 #[rv r0, iv (64 : Int32), rv b3] [(.int (64 : Int32)), (.int (32 : Int32)), (.int (0 : Int32)), (.ref b3), (.int (0 : Int32)), (.ref r0)])) _
    refine st6 _ ?_
    exact kt
  obtain ⟨T8, h8, L8, X8, e8, N8, Kc8, Vc8, st8⟩ := cpA X6 hx hZ hown (hw _ (List.mem_of_getElem? (i := 82) rfl)) (hw _ (List.mem_of_getElem? (i := 85) rfl)) (hw _ (List.mem_of_getElem? (i := 83) rfl)) (hw _ (List.mem_of_getElem? (i := 84) rfl)) hh6 (V_r0.ext E3) (V_b3.pad (pad_rep [] (.long (0 : Int64)) 64)) (Or.inl ⟨rfl, rfl⟩) (by decide) (by decide) (by decide) (by decide) (by decide) rfl (by simp +decide) N6 g_b3 (g := (mkF m 28 #[rv r0, iv (64 : Int32), rv b3] [(.int (32 : Int32)), (.int (0 : Int32)), (.ref b3), (.int (0 : Int32)), (.ref r0)])) rfl (by rw [hml]; rfl) rfl (hb hby d12_28) (by decide) (W := 0) (by show 2 * 0 + _ ≤ _; exact Nat.le_of_eq rfl) (by decide)
  have K8 : Keep h0 h8 [] := K3.trans Kc8 (allS (Or.inr sz_b3) all0)
  have V8 : Arv Z h8 b3 k3 .long (64 : Int32) [] (.long (0 : Int64)) := Vc8.pad (own_cpall (.long (0 : Int64)) _ _ _ _ _)
  have pre9 : ∀ t, Steps p.tables e below (T8.setTop (mkF m 32 #[rv r0, iv (64 : Int32), rv b3] [(.ref b3)])) t → Steps p.tables e below (s₁.setTop (entryFrame m #[(.ref r0), (.int (64 : Int32))] 3)) t := by
    intro t kt
    refine pre7 _ ?_
    show Steps p.tables e below (T6.setTop (mkF m 28 #[rv r0, iv (64 : Int32), rv b3] [(.int (32 : Int32)), (.int (0 : Int32)), (.ref b3), (.int (0 : Int32)), (.ref r0)])) _
    refine st8 _ ?_
    show Steps p.tables e below (T8.setTop (mkF m 31 #[rv r0, iv (64 : Int32), rv b3] [])) _
    refine XS.aloadN X8.here hx rfl (hb hby d12_31) rfl rfl ?_
    exact kt
  obtain ⟨fs, hr, hrun, hended, hW, hsame⟩ := X8.leave (v := some (.ref b3)) (fun h => by rw [Bd.returns] at h; cases h)
  refine ⟨_, _, pre9 _ ?_, hrun, hended, _, _, rfl, ?_, ⟨_, rfl⟩, hW, hsame.mono (by decide) (by decide)⟩
  · show Steps p.tables e below (T8.setTop (mkF m 32 #[rv r0, iv (64 : Int32), rv b3] [(.ref b3)])) _
    jvm_step X8.here [X8.here.top, hx, (hb hby d12_32), X8.method', Bd.returns, Value.isRef, FieldType.isReference]
    first | (intro acts; rw [hr _ acts rfl rfl rfl]) | rw [hr _ _ rfl rfl rfl]
    exact Steps.refl _
  · show Q12v32 Z r0 k0 h0 n0 _ T8.heap _
    rw [e8]
    exact ⟨b3, k3, rfl, N8, K8, sz_b3, V8, (Ex3.keep Kc8)⟩

theorem ef_12v64 (m : MethodId) (x0 : Addr) (x1 : Int32) : entryFrame m #[(.ref x0), (.int x1)] 3 = mkF m 0 #[.val (.ref x0), .val (.int x1), .unset] [] := by first | (simp [entryFrame, mkF, argsToLocals, Value.category]; done) | rfl
def Q12v64 (Z : State) (r0 : Addr) (k0 : ClassId) (h0 : Heap) (n0 : Nat) (v : Option Value) (h : Heap) (L : List Loc) : Prop := ∃ b k, v = some (.ref b) ∧ Fr n0 L ∧ Keep h0 h [] ∧ h0.size ≤ b ∧ Arv Z h b k .long (128 : Int32) [] (.long (0 : Int64)) ∧ Exa Z h b "[J"
set_option maxRecDepth 65536 in
set_option maxHeartbeats 40000000 in
theorem rm12v64 (l : Launch) (Z : State) (a0 : Array Value) (hw : ∀ d ∈ tables_1, d.before a0 Z = true) (ws : List Jvm.Cond) (r0 : Addr) (k0 : ClassId) (h0 : Heap) (n0 : Nat) (Z0 : n0 ≤ h0.size) (V_r0 : Arv Z h0 r0 k0 .long (64 : Int32) [] (.long (0 : Int64))) :
    MetFree l (⟨"java/util/Arrays", "copyOf", "([JI)[J"⟩ : MethodName) (head1 (Jvm.Cond.code (⟨"java/util/Arrays", "copyOf", "([JI)[J"⟩ : MethodName) jdk_65_method_124_code 3 (some (.array .long)) :: ws) ({ frames := 1, cells := 1, slots := 128, locals := 18 } : Room)) (fun a U => a = #[(.ref r0), (.int (128 : Int32))] ∧ Z.Warmed39 U.vm ∧ U.heap = h0) (fun _ _ _ _ _ => True) (fun _ U o U' => ∃ v L, o = .returned v ∧ Q12v64 Z r0 k0 h0 n0 v U'.heap L ∧ FrameEnd U o U' L ({ frames := 1, cells := 1, slots := 128, locals := 18 } : Room).cells ({ frames := 1, cells := 1, slots := 128, locals := 18 } : Room).slots) := by
  refine MetFree.of_bodySF (plainFor_of_name pn1) hisR ?_
  intro p e s m args below meth c s₁ Bd hml0 hP hK
  obtain ⟨rfl, hZ, hh⟩ := hP
  have hx := Bd.exec
  have hby := Bd.bytes
  have hml : c.maxLocals = 3 := hml0
  have hown : s.vm.findClass "java/util/Arrays" = some m.cls := findClass_of_methodNamed Bd.named
  have hnm := (name_of_methodNamed Bd.named Bd.method).1
  have X0 : Stand p l e ({ frames := 1, cells := 1, slots := 128, locals := 18 } : Room) s m #[(.ref r0), (.int (128 : Int32))] below meth c s₁ [] 0 0 := Stand.of_body Bd
  have e0 : s₁.heap = h0 := by rw [← hh, Bd.state]; rfl
  have N0 := Fr.nil n0
  have pre0 : ∀ t, Steps p.tables e below (s₁.setTop (mkF m 0 #[rv r0, iv (128 : Int32), .unset] [])) t → Steps p.tables e below (s₁.setTop (entryFrame m #[(.ref r0), (.int (128 : Int32))] 3)) t := fun t k => castTop (ef_12v64 m r0 (128 : Int32)) k
  obtain ⟨cl1, Ar1, -, S1, M1, -, -⟩ := id V_r0
  have pre2 : ∀ t, Steps p.tables e below (s₁.setTop (mkF m 15 #[rv r0, iv (128 : Int32), .unset] [(.int (128 : Int32))])) t → Steps p.tables e below (s₁.setTop (entryFrame m #[(.ref r0), (.int (128 : Int32))] 3)) t := by
    intro t kt
    refine pre0 _ ?_
    show Steps p.tables e below (s₁.setTop (mkF m 0 #[rv r0, iv (128 : Int32), .unset] [])) _
    refine XS.iloadN X0.here hx rfl (hb hby d12_0) rfl ?_
    refine XS.aloadN X0.here hx rfl (hb hby d12_1) rfl rfl ?_
    refine X0.arraylength hx (by rw [e0]; exact Ar1.1) (State.isArrayOf_alike hZ.alike Ar1.2.1) (g := (mkF m 2 #[rv r0, iv (128 : Int32), .unset] [(.ref r0), (.int (128 : Int32))])) rfl rfl (hb hby d12_2) _ ?_
    rw [len_of S1 M1]
    show Steps p.tables e below (s₁.setTop (mkF m 3 #[rv r0, iv (128 : Int32), .unset] [(.int (64 : Int32)), (.int (128 : Int32))])) _
    refine XS.icmpYes X0.here hx rfl (pc0 := 3) (pc' := 14) rfl (hb hby d12_3) rfl (feq (by decide)).2 (by decide) (by decide) ?_
    refine XS.iloadN X0.here hx rfl (hb hby d12_14) rfl ?_
    exact kt
  obtain ⟨T3, h3, k3, X3, e3, E3, A3, Ex3, st3⟩ := newPE X0 hx hZ (hw _ (List.mem_of_getElem? (i := 57) rfl)) e0 (g := (mkF m 15 #[rv r0, iv (128 : Int32), .unset] [(.int (128 : Int32))])) rfl (hb hby d12_15) rfl (by decide) (cap := 128) (by decide) (by decide) (by decide) (by decide) (ad := "[J") rfl
  obtain ⟨b3, g3⟩ : ∃ z, z = h0.size := ⟨_, rfl⟩
  rw [← g3] at A3 Ex3 st3
  have g_b3 : n0 ≤ b3 := Nat.le_trans (Nat.le_trans Z0 (Keep.refl h0 []).1) (Nat.le_of_eq g3.symm)
  have sz_b3 : h0.size ≤ b3 := Nat.le_trans (Keep.refl h0 []).1 (Nat.le_of_eq g3.symm)
  have V_b3 : Arv Z h3 b3 k3 .long (128 : Int32) [] (.long (0 : Int64)) := (Arv.new A3 (by decide))
  have K3 : Keep h0 h3 [] := (Keep.refl h0 []).ext E3
  obtain ⟨cl4, Ar4, -, S4, M4, -, -⟩ := id (V_r0.ext E3)
  have pre5 : ∀ t, Steps p.tables e below (T3.setTop (mkF m 25 #[rv r0, iv (128 : Int32), rv b3] [(.int (128 : Int32)), (.int (64 : Int32)), (.int (0 : Int32)), (.ref b3), (.int (0 : Int32)), (.ref r0)])) t → Steps p.tables e below (s₁.setTop (entryFrame m #[(.ref r0), (.int (128 : Int32))] 3)) t := by
    intro t kt
    refine pre2 _ ?_
    show Steps p.tables e below (s₁.setTop (mkF m 15 #[rv r0, iv (128 : Int32), .unset] [(.int (128 : Int32))])) _
    refine st3 _ ?_
    show Steps p.tables e below (T3.setTop (mkF m 17 #[rv r0, iv (128 : Int32), .unset] [(.ref b3)])) _
    refine XS.astoreN X3.here hx rfl (hb hby d12_17) rfl rfl (l' := #[rv r0, iv (128 : Int32), rv b3]) rfl ?_
    refine XS.aloadN X3.here hx rfl (hb hby d12_18) rfl rfl ?_
    refine XS.iconst X3.here hx rfl (hb hby d12_19) ?_
    refine XS.aloadN X3.here hx rfl (hb hby d12_20) rfl rfl ?_
    refine XS.iconst X3.here hx rfl (hb hby d12_21) ?_
    refine XS.aloadN X3.here hx rfl (hb hby d12_22) rfl rfl ?_
    show Steps p.tables e below (T3.setTop (mkF m 23 #[rv r0, iv (128 : Int32), rv b3] [(.ref r0), (.int (0 : Int32)), (.ref b3), (.int (0 : Int32)), (.ref r0)])) _
    refine X3.arraylength hx (by rw [e3]; exact Ar4.1) (State.isArrayOf_alike hZ.alike Ar4.2.1) (g := (mkF m 23 #[rv r0, iv (128 : Int32), rv b3] [(.ref r0), (.int (0 : Int32)), (.ref b3), (.int (0 : Int32)), (.ref r0)])) rfl rfl (hb hby d12_23) _ ?_
    rw [len_of S4 M4]
    show Steps p.tables e below (T3.setTop (mkF m 24 #[rv r0, iv (128 : Int32), rv b3] [(.int (64 : Int32)), (.int (0 : Int32)), (.ref b3), (.int (0 : Int32)), (.ref r0)])) _
    refine XS.iloadN X3.here hx rfl (hb hby d12_24) rfl ?_
    exact kt
  obtain ⟨_, _, ⟨T6, L6, k6, n6⟩, -, X6, ⟨Lc6, hQ6, l6, y6, z6⟩, st6⟩ := Jvm.LawKit.callS X3 hx (y := (⟨"java/lang/Math", "min", "(II)I"⟩ : MethodName)) hown (mvT hZ (hw _ (List.mem_of_getElem? (i := 78) rfl))) (mvT hZ (hw _ (List.mem_of_getElem? (i := 79) rfl))) (mvT hZ (hw _ (List.mem_of_getElem? (i := 80) rfl))) (mvT hZ (hw _ (List.mem_of_getElem? (i := 81) rfl))) (by decide) (backOf (W := 4) (rm11v64 l Z a0 hw []  h3 n0 (Nat.le_trans Z0 K3.1)) hZ (hw _ (List.mem_of_getElem? (i := 81) rfl)) (hw _ (List.mem_of_getElem? (i := 80) rfl)) (by decide) (by decide)) (g := (mkF m 25 #[rv r0, iv (128 : Int32), rv b3] [(.int (128 : Int32)), (.int (64 : Int32)), (.int (0 : Int32)), (.ref b3), (.int (0 : Int32)), (.ref r0)])) rfl (by rw [hml]; rfl) (argsL := [(.int (64 : Int32)), (.int (128 : Int32))]) (rest := [(.int (0 : Int32)), (.ref b3), (.int (0 : Int32)), (.ref r0)]) (lenOf pd2 rfl) rfl (by show 2 * 0 + _ ≤ _; exact Nat.le_of_eq rfl) (hb hby d12_25) (fun _ _ => ⟨rfl, e3, (by decide : 1 + 0 ≤ _), (by decide : 128 + 0 ≤ _)⟩)
  dsimp only [Pt.U, Pt.locs, Pt.cells, Pt.slots] at X6 l6 y6 z6 st6 hQ6
  subst l6 y6 z6
  obtain ⟨rfl, N6q, hh6⟩ := hQ6
  have N6 := Fr.app N0 N6q
  have pre7 : ∀ t, Steps p.tables e below (T6.setTop (mkF m 28 #[rv r0, iv (128 : Int32), rv b3] [(.int (64 : Int32)), (.int (0 : Int32)), (.ref b3), (.int (0 : Int32)), (.ref r0)])) t → Steps p.tables e below (s₁.setTop (entryFrame m #[(.ref r0), (.int (128 : Int32))] 3)) t := by
    intro t kt
    refine pre5 _ ?_
    show Steps p.tables e below (T3.setTop (mkF m 25 #[rv r0, iv (128 : Int32), rv b3] [(.int (128 : Int32)), (.int (64 : Int32)), (.int (0 : Int32)), (.ref b3), (.int (0 : Int32)), (.ref r0)])) _
    refine st6 _ ?_
    exact kt
  obtain ⟨T8, h8, L8, X8, e8, N8, Kc8, Vc8, st8⟩ := cpA X6 hx hZ hown (hw _ (List.mem_of_getElem? (i := 82) rfl)) (hw _ (List.mem_of_getElem? (i := 85) rfl)) (hw _ (List.mem_of_getElem? (i := 83) rfl)) (hw _ (List.mem_of_getElem? (i := 84) rfl)) hh6 (V_r0.ext E3) (V_b3.pad (pad_rep [] (.long (0 : Int64)) 128)) (Or.inl ⟨rfl, rfl⟩) (by decide) (by decide) (by decide) (by decide) (by decide) rfl (by simp +decide) N6 g_b3 (g := (mkF m 28 #[rv r0, iv (128 : Int32), rv b3] [(.int (64 : Int32)), (.int (0 : Int32)), (.ref b3), (.int (0 : Int32)), (.ref r0)])) rfl (by rw [hml]; rfl) rfl (hb hby d12_28) (by decide) (W := 0) (by show 2 * 0 + _ ≤ _; exact Nat.le_of_eq rfl) (by decide)
  have K8 : Keep h0 h8 [] := K3.trans Kc8 (allS (Or.inr sz_b3) all0)
  have V8 : Arv Z h8 b3 k3 .long (128 : Int32) [] (.long (0 : Int64)) := Vc8.pad (own_cpall (.long (0 : Int64)) _ _ _ _ _)
  have pre9 : ∀ t, Steps p.tables e below (T8.setTop (mkF m 32 #[rv r0, iv (128 : Int32), rv b3] [(.ref b3)])) t → Steps p.tables e below (s₁.setTop (entryFrame m #[(.ref r0), (.int (128 : Int32))] 3)) t := by
    intro t kt
    refine pre7 _ ?_
    show Steps p.tables e below (T6.setTop (mkF m 28 #[rv r0, iv (128 : Int32), rv b3] [(.int (64 : Int32)), (.int (0 : Int32)), (.ref b3), (.int (0 : Int32)), (.ref r0)])) _
    refine st8 _ ?_
    show Steps p.tables e below (T8.setTop (mkF m 31 #[rv r0, iv (128 : Int32), rv b3] [])) _
    refine XS.aloadN X8.here hx rfl (hb hby d12_31) rfl rfl ?_
    exact kt
  obtain ⟨fs, hr, hrun, hended, hW, hsame⟩ := X8.leave (v := some (.ref b3)) (fun h => by rw [Bd.returns] at h; cases h)
  refine ⟨_, _, pre9 _ ?_, hrun, hended, _, _, rfl, ?_, ⟨_, rfl⟩, hW, hsame.mono (by decide) (by decide)⟩
  · show Steps p.tables e below (T8.setTop (mkF m 32 #[rv r0, iv (128 : Int32), rv b3] [(.ref b3)])) _
    jvm_step X8.here [X8.here.top, hx, (hb hby d12_32), X8.method', Bd.returns, Value.isRef, FieldType.isReference]
    first | (intro acts; rw [hr _ acts rfl rfl rfl]) | rw [hr _ _ rfl rfl rfl]
    exact Steps.refl _
  · show Q12v64 Z r0 k0 h0 n0 _ T8.heap _
    rw [e8]
    exact ⟨b3, k3, rfl, N8, K8, sz_b3, V8, (Ex3.keep Kc8)⟩
theorem d13_0 : decode jdk_65_method_121_code 0 = .ok (.iload_n 1, 1) := by decide +kernel
theorem d13_1 : decode jdk_65_method_121_code 1 = .ok (.aload_n 0, 1) := by decide +kernel
theorem d13_2 : decode jdk_65_method_121_code 2 = .ok (.arraylength, 1) := by decide +kernel
theorem d13_3 : decode jdk_65_method_121_code 3 = .ok (.if_icmp .ne 11, 3) := by decide +kernel
theorem d13_14 : decode jdk_65_method_121_code 14 = .ok (.iload_n 1, 1) := by decide +kernel
theorem d13_15 : decode jdk_65_method_121_code 15 = .ok (.newarray .byte, 2) := by decide +kernel
theorem d13_17 : decode jdk_65_method_121_code 17 = .ok (.astore_n 2, 1) := by decide +kernel
theorem d13_18 : decode jdk_65_method_121_code 18 = .ok (.aload_n 0, 1) := by decide +kernel
theorem d13_19 : decode jdk_65_method_121_code 19 = .ok (.iconst 0, 1) := by decide +kernel
theorem d13_20 : decode jdk_65_method_121_code 20 = .ok (.aload_n 2, 1) := by decide +kernel
theorem d13_21 : decode jdk_65_method_121_code 21 = .ok (.iconst 0, 1) := by decide +kernel
theorem d13_22 : decode jdk_65_method_121_code 22 = .ok (.aload_n 0, 1) := by decide +kernel
theorem d13_23 : decode jdk_65_method_121_code 23 = .ok (.arraylength, 1) := by decide +kernel
theorem d13_24 : decode jdk_65_method_121_code 24 = .ok (.iload_n 1, 1) := by decide +kernel
theorem d13_25 : decode jdk_65_method_121_code 25 = .ok (.invokestatic 304, 3) := by decide +kernel
theorem d13_28 : decode jdk_65_method_121_code 28 = .ok (.invokestatic 150, 3) := by decide +kernel
theorem d13_31 : decode jdk_65_method_121_code 31 = .ok (.aload_n 2, 1) := by decide +kernel
theorem d13_32 : decode jdk_65_method_121_code 32 = .ok (.areturn, 1) := by decide +kernel
theorem ef_13v16 (m : MethodId) (x0 : Addr) (x1 : Int32) : entryFrame m #[(.ref x0), (.int x1)] 3 = mkF m 0 #[.val (.ref x0), .val (.int x1), .unset] [] := by first | (simp [entryFrame, mkF, argsToLocals, Value.category]; done) | rfl
def Q13v16 (Z : State) (r0 : Addr) (k0 : ClassId) (h0 : Heap) (n0 : Nat) (v : Option Value) (h : Heap) (L : List Loc) : Prop := ∃ b k, v = some (.ref b) ∧ Fr n0 L ∧ Keep h0 h [] ∧ h0.size ≤ b ∧ Arv Z h b k .byte (32 : Int32) [] (.int (0 : Int32)) ∧ Exa Z h b "[B"
set_option maxRecDepth 65536 in
set_option maxHeartbeats 40000000 in
theorem rm13v16 (l : Launch) (Z : State) (a0 : Array Value) (hw : ∀ d ∈ tables_1, d.before a0 Z = true) (ws : List Jvm.Cond) (r0 : Addr) (k0 : ClassId) (h0 : Heap) (n0 : Nat) (Z0 : n0 ≤ h0.size) (V_r0 : Arv Z h0 r0 k0 .byte (16 : Int32) [] (.int (0 : Int32))) :
    MetFree l (⟨"java/util/Arrays", "copyOf", "([BI)[B"⟩ : MethodName) (head1 (Jvm.Cond.code (⟨"java/util/Arrays", "copyOf", "([BI)[B"⟩ : MethodName) jdk_65_method_121_code 3 (some (.array .byte)) :: ws) ({ frames := 1, cells := 1, slots := 32, locals := 18 } : Room)) (fun a U => a = #[(.ref r0), (.int (32 : Int32))] ∧ Z.Warmed39 U.vm ∧ U.heap = h0) (fun _ _ _ _ _ => True) (fun _ U o U' => ∃ v L, o = .returned v ∧ Q13v16 Z r0 k0 h0 n0 v U'.heap L ∧ FrameEnd U o U' L ({ frames := 1, cells := 1, slots := 32, locals := 18 } : Room).cells ({ frames := 1, cells := 1, slots := 32, locals := 18 } : Room).slots) := by
  refine MetFree.of_bodySF (plainFor_of_name pn1) hisR ?_
  intro p e s m args below meth c s₁ Bd hml0 hP hK
  obtain ⟨rfl, hZ, hh⟩ := hP
  have hx := Bd.exec
  have hby := Bd.bytes
  have hml : c.maxLocals = 3 := hml0
  have hown : s.vm.findClass "java/util/Arrays" = some m.cls := findClass_of_methodNamed Bd.named
  have hnm := (name_of_methodNamed Bd.named Bd.method).1
  have X0 : Stand p l e ({ frames := 1, cells := 1, slots := 32, locals := 18 } : Room) s m #[(.ref r0), (.int (32 : Int32))] below meth c s₁ [] 0 0 := Stand.of_body Bd
  have e0 : s₁.heap = h0 := by rw [← hh, Bd.state]; rfl
  have N0 := Fr.nil n0
  have pre0 : ∀ t, Steps p.tables e below (s₁.setTop (mkF m 0 #[rv r0, iv (32 : Int32), .unset] [])) t → Steps p.tables e below (s₁.setTop (entryFrame m #[(.ref r0), (.int (32 : Int32))] 3)) t := fun t k => castTop (ef_13v16 m r0 (32 : Int32)) k
  obtain ⟨cl1, Ar1, -, S1, M1, -, -⟩ := id V_r0
  have pre2 : ∀ t, Steps p.tables e below (s₁.setTop (mkF m 15 #[rv r0, iv (32 : Int32), .unset] [(.int (32 : Int32))])) t → Steps p.tables e below (s₁.setTop (entryFrame m #[(.ref r0), (.int (32 : Int32))] 3)) t := by
    intro t kt
    refine pre0 _ ?_
    show Steps p.tables e below (s₁.setTop (mkF m 0 #[rv r0, iv (32 : Int32), .unset] [])) _
    refine XS.iloadN X0.here hx rfl (hb hby d13_0) rfl ?_
    refine XS.aloadN X0.here hx rfl (hb hby d13_1) rfl rfl ?_
    refine X0.arraylength hx (by rw [e0]; exact Ar1.1) (State.isArrayOf_alike hZ.alike Ar1.2.1) (g := (mkF m 2 #[rv r0, iv (32 : Int32), .unset] [(.ref r0), (.int (32 : Int32))])) rfl rfl (hb hby d13_2) _ ?_
    rw [len_of S1 M1]
    show Steps p.tables e below (s₁.setTop (mkF m 3 #[rv r0, iv (32 : Int32), .unset] [(.int (16 : Int32)), (.int (32 : Int32))])) _
    refine XS.icmpYes X0.here hx rfl (pc0 := 3) (pc' := 14) rfl (hb hby d13_3) rfl (feq (by decide)).2 (by decide) (by decide) ?_
    refine XS.iloadN X0.here hx rfl (hb hby d13_14) rfl ?_
    exact kt
  obtain ⟨T3, h3, k3, X3, e3, E3, A3, Ex3, st3⟩ := newPE X0 hx hZ (hw _ (List.mem_of_getElem? (i := 58) rfl)) e0 (g := (mkF m 15 #[rv r0, iv (32 : Int32), .unset] [(.int (32 : Int32))])) rfl (hb hby d13_15) rfl (by decide) (cap := 32) (by decide) (by decide) (by decide) (by decide) (ad := "[B") rfl
  obtain ⟨b3, g3⟩ : ∃ z, z = h0.size := ⟨_, rfl⟩
  rw [← g3] at A3 Ex3 st3
  have g_b3 : n0 ≤ b3 := Nat.le_trans (Nat.le_trans Z0 (Keep.refl h0 []).1) (Nat.le_of_eq g3.symm)
  have sz_b3 : h0.size ≤ b3 := Nat.le_trans (Keep.refl h0 []).1 (Nat.le_of_eq g3.symm)
  have V_b3 : Arv Z h3 b3 k3 .byte (32 : Int32) [] (.int (0 : Int32)) := (Arv.new A3 (by decide))
  have K3 : Keep h0 h3 [] := (Keep.refl h0 []).ext E3
  obtain ⟨cl4, Ar4, -, S4, M4, -, -⟩ := id (V_r0.ext E3)
  have pre5 : ∀ t, Steps p.tables e below (T3.setTop (mkF m 25 #[rv r0, iv (32 : Int32), rv b3] [(.int (32 : Int32)), (.int (16 : Int32)), (.int (0 : Int32)), (.ref b3), (.int (0 : Int32)), (.ref r0)])) t → Steps p.tables e below (s₁.setTop (entryFrame m #[(.ref r0), (.int (32 : Int32))] 3)) t := by
    intro t kt
    refine pre2 _ ?_
    show Steps p.tables e below (s₁.setTop (mkF m 15 #[rv r0, iv (32 : Int32), .unset] [(.int (32 : Int32))])) _
    refine st3 _ ?_
    show Steps p.tables e below (T3.setTop (mkF m 17 #[rv r0, iv (32 : Int32), .unset] [(.ref b3)])) _
    refine XS.astoreN X3.here hx rfl (hb hby d13_17) rfl rfl (l' := #[rv r0, iv (32 : Int32), rv b3]) rfl ?_
    refine XS.aloadN X3.here hx rfl (hb hby d13_18) rfl rfl ?_
    refine XS.iconst X3.here hx rfl (hb hby d13_19) ?_
    refine XS.aloadN X3.here hx rfl (hb hby d13_20) rfl rfl ?_
    refine XS.iconst X3.here hx rfl (hb hby d13_21) ?_
    refine XS.aloadN X3.here hx rfl (hb hby d13_22) rfl rfl ?_
    show Steps p.tables e below (T3.setTop (mkF m 23 #[rv r0, iv (32 : Int32), rv b3] [(.ref r0), (.int (0 : Int32)), (.ref b3), (.int (0 : Int32)), (.ref r0)])) _
    refine X3.arraylength hx (by rw [e3]; exact Ar4.1) (State.isArrayOf_alike hZ.alike Ar4.2.1) (g := (mkF m 23 #[rv r0, iv (32 : Int32), rv b3] [(.ref r0), (.int (0 : Int32)), (.ref b3), (.int (0 : Int32)), (.ref r0)])) rfl rfl (hb hby d13_23) _ ?_
    rw [len_of S4 M4]
    show Steps p.tables e below (T3.setTop (mkF m 24 #[rv r0, iv (32 : Int32), rv b3] [(.int (16 : Int32)), (.int (0 : Int32)), (.ref b3), (.int (0 : Int32)), (.ref r0)])) _
    refine XS.iloadN X3.here hx rfl (hb hby d13_24) rfl ?_
    exact kt
  obtain ⟨_, _, ⟨T6, L6, k6, n6⟩, -, X6, ⟨Lc6, hQ6, l6, y6, z6⟩, st6⟩ := Jvm.LawKit.callS X3 hx (y := (⟨"java/lang/Math", "min", "(II)I"⟩ : MethodName)) hown (mvT hZ (hw _ (List.mem_of_getElem? (i := 78) rfl))) (mvT hZ (hw _ (List.mem_of_getElem? (i := 79) rfl))) (mvT hZ (hw _ (List.mem_of_getElem? (i := 80) rfl))) (mvT hZ (hw _ (List.mem_of_getElem? (i := 81) rfl))) (by decide) (backOf (W := 4) (rm11v16 l Z a0 hw []  h3 n0 (Nat.le_trans Z0 K3.1)) hZ (hw _ (List.mem_of_getElem? (i := 81) rfl)) (hw _ (List.mem_of_getElem? (i := 80) rfl)) (by decide) (by decide)) (g := (mkF m 25 #[rv r0, iv (32 : Int32), rv b3] [(.int (32 : Int32)), (.int (16 : Int32)), (.int (0 : Int32)), (.ref b3), (.int (0 : Int32)), (.ref r0)])) rfl (by rw [hml]; rfl) (argsL := [(.int (16 : Int32)), (.int (32 : Int32))]) (rest := [(.int (0 : Int32)), (.ref b3), (.int (0 : Int32)), (.ref r0)]) (lenOf pd2 rfl) rfl (by show 2 * 0 + _ ≤ _; exact Nat.le_of_eq rfl) (hb hby d13_25) (fun _ _ => ⟨rfl, e3, (by decide : 1 + 0 ≤ _), (by decide : 32 + 0 ≤ _)⟩)
  dsimp only [Pt.U, Pt.locs, Pt.cells, Pt.slots] at X6 l6 y6 z6 st6 hQ6
  subst l6 y6 z6
  obtain ⟨rfl, N6q, hh6⟩ := hQ6
  have N6 := Fr.app N0 N6q
  have pre7 : ∀ t, Steps p.tables e below (T6.setTop (mkF m 28 #[rv r0, iv (32 : Int32), rv b3] [(.int (16 : Int32)), (.int (0 : Int32)), (.ref b3), (.int (0 : Int32)), (.ref r0)])) t → Steps p.tables e below (s₁.setTop (entryFrame m #[(.ref r0), (.int (32 : Int32))] 3)) t := by
    intro t kt
    refine pre5 _ ?_
    show Steps p.tables e below (T3.setTop (mkF m 25 #[rv r0, iv (32 : Int32), rv b3] [(.int (32 : Int32)), (.int (16 : Int32)), (.int (0 : Int32)), (.ref b3), (.int (0 : Int32)), (.ref r0)])) _
    refine st6 _ ?_
    exact kt
  obtain ⟨T8, h8, L8, X8, e8, N8, Kc8, Vc8, st8⟩ := cpA X6 hx hZ hown (hw _ (List.mem_of_getElem? (i := 82) rfl)) (hw _ (List.mem_of_getElem? (i := 85) rfl)) (hw _ (List.mem_of_getElem? (i := 83) rfl)) (hw _ (List.mem_of_getElem? (i := 84) rfl)) hh6 (V_r0.ext E3) (V_b3.pad (pad_rep [] (.int (0 : Int32)) 32)) (Or.inl ⟨rfl, rfl⟩) (by decide) (by decide) (by decide) (by decide) (by decide) rfl (by simp +decide) N6 g_b3 (g := (mkF m 28 #[rv r0, iv (32 : Int32), rv b3] [(.int (16 : Int32)), (.int (0 : Int32)), (.ref b3), (.int (0 : Int32)), (.ref r0)])) rfl (by rw [hml]; rfl) rfl (hb hby d13_28) (by decide) (W := 0) (by show 2 * 0 + _ ≤ _; exact Nat.le_of_eq rfl) (by decide)
  have K8 : Keep h0 h8 [] := K3.trans Kc8 (allS (Or.inr sz_b3) all0)
  have V8 : Arv Z h8 b3 k3 .byte (32 : Int32) [] (.int (0 : Int32)) := Vc8.pad (own_cpall (.int (0 : Int32)) _ _ _ _ _)
  have pre9 : ∀ t, Steps p.tables e below (T8.setTop (mkF m 32 #[rv r0, iv (32 : Int32), rv b3] [(.ref b3)])) t → Steps p.tables e below (s₁.setTop (entryFrame m #[(.ref r0), (.int (32 : Int32))] 3)) t := by
    intro t kt
    refine pre7 _ ?_
    show Steps p.tables e below (T6.setTop (mkF m 28 #[rv r0, iv (32 : Int32), rv b3] [(.int (16 : Int32)), (.int (0 : Int32)), (.ref b3), (.int (0 : Int32)), (.ref r0)])) _
    refine st8 _ ?_
    show Steps p.tables e below (T8.setTop (mkF m 31 #[rv r0, iv (32 : Int32), rv b3] [])) _
    refine XS.aloadN X8.here hx rfl (hb hby d13_31) rfl rfl ?_
    exact kt
  obtain ⟨fs, hr, hrun, hended, hW, hsame⟩ := X8.leave (v := some (.ref b3)) (fun h => by rw [Bd.returns] at h; cases h)
  refine ⟨_, _, pre9 _ ?_, hrun, hended, _, _, rfl, ?_, ⟨_, rfl⟩, hW, hsame.mono (by decide) (by decide)⟩
  · show Steps p.tables e below (T8.setTop (mkF m 32 #[rv r0, iv (32 : Int32), rv b3] [(.ref b3)])) _
    jvm_step X8.here [X8.here.top, hx, (hb hby d13_32), X8.method', Bd.returns, Value.isRef, FieldType.isReference]
    first | (intro acts; rw [hr _ acts rfl rfl rfl]) | rw [hr _ _ rfl rfl rfl]
    exact Steps.refl _
  · show Q13v16 Z r0 k0 h0 n0 _ T8.heap _
    rw [e8]
    exact ⟨b3, k3, rfl, N8, K8, sz_b3, V8, (Ex3.keep Kc8)⟩

theorem ef_13v32 (m : MethodId) (x0 : Addr) (x1 : Int32) : entryFrame m #[(.ref x0), (.int x1)] 3 = mkF m 0 #[.val (.ref x0), .val (.int x1), .unset] [] := by first | (simp [entryFrame, mkF, argsToLocals, Value.category]; done) | rfl
def Q13v32 (Z : State) (r0 : Addr) (k0 : ClassId) (h0 : Heap) (n0 : Nat) (v : Option Value) (h : Heap) (L : List Loc) : Prop := ∃ b k, v = some (.ref b) ∧ Fr n0 L ∧ Keep h0 h [] ∧ h0.size ≤ b ∧ Arv Z h b k .byte (64 : Int32) [] (.int (0 : Int32)) ∧ Exa Z h b "[B"
set_option maxRecDepth 65536 in
set_option maxHeartbeats 40000000 in
theorem rm13v32 (l : Launch) (Z : State) (a0 : Array Value) (hw : ∀ d ∈ tables_1, d.before a0 Z = true) (ws : List Jvm.Cond) (r0 : Addr) (k0 : ClassId) (h0 : Heap) (n0 : Nat) (Z0 : n0 ≤ h0.size) (V_r0 : Arv Z h0 r0 k0 .byte (32 : Int32) [] (.int (0 : Int32))) :
    MetFree l (⟨"java/util/Arrays", "copyOf", "([BI)[B"⟩ : MethodName) (head1 (Jvm.Cond.code (⟨"java/util/Arrays", "copyOf", "([BI)[B"⟩ : MethodName) jdk_65_method_121_code 3 (some (.array .byte)) :: ws) ({ frames := 1, cells := 1, slots := 64, locals := 18 } : Room)) (fun a U => a = #[(.ref r0), (.int (64 : Int32))] ∧ Z.Warmed39 U.vm ∧ U.heap = h0) (fun _ _ _ _ _ => True) (fun _ U o U' => ∃ v L, o = .returned v ∧ Q13v32 Z r0 k0 h0 n0 v U'.heap L ∧ FrameEnd U o U' L ({ frames := 1, cells := 1, slots := 64, locals := 18 } : Room).cells ({ frames := 1, cells := 1, slots := 64, locals := 18 } : Room).slots) := by
  refine MetFree.of_bodySF (plainFor_of_name pn1) hisR ?_
  intro p e s m args below meth c s₁ Bd hml0 hP hK
  obtain ⟨rfl, hZ, hh⟩ := hP
  have hx := Bd.exec
  have hby := Bd.bytes
  have hml : c.maxLocals = 3 := hml0
  have hown : s.vm.findClass "java/util/Arrays" = some m.cls := findClass_of_methodNamed Bd.named
  have hnm := (name_of_methodNamed Bd.named Bd.method).1
  have X0 : Stand p l e ({ frames := 1, cells := 1, slots := 64, locals := 18 } : Room) s m #[(.ref r0), (.int (64 : Int32))] below meth c s₁ [] 0 0 := Stand.of_body Bd
  have e0 : s₁.heap = h0 := by rw [← hh, Bd.state]; rfl
  have N0 := Fr.nil n0
  have pre0 : ∀ t, Steps p.tables e below (s₁.setTop (mkF m 0 #[rv r0, iv (64 : Int32), .unset] [])) t → Steps p.tables e below (s₁.setTop (entryFrame m #[(.ref r0), (.int (64 : Int32))] 3)) t := fun t k => castTop (ef_13v32 m r0 (64 : Int32)) k
  obtain ⟨cl1, Ar1, -, S1, M1, -, -⟩ := id V_r0
  have pre2 : ∀ t, Steps p.tables e below (s₁.setTop (mkF m 15 #[rv r0, iv (64 : Int32), .unset] [(.int (64 : Int32))])) t → Steps p.tables e below (s₁.setTop (entryFrame m #[(.ref r0), (.int (64 : Int32))] 3)) t := by
    intro t kt
    refine pre0 _ ?_
    show Steps p.tables e below (s₁.setTop (mkF m 0 #[rv r0, iv (64 : Int32), .unset] [])) _
    refine XS.iloadN X0.here hx rfl (hb hby d13_0) rfl ?_
    refine XS.aloadN X0.here hx rfl (hb hby d13_1) rfl rfl ?_
    refine X0.arraylength hx (by rw [e0]; exact Ar1.1) (State.isArrayOf_alike hZ.alike Ar1.2.1) (g := (mkF m 2 #[rv r0, iv (64 : Int32), .unset] [(.ref r0), (.int (64 : Int32))])) rfl rfl (hb hby d13_2) _ ?_
    rw [len_of S1 M1]
    show Steps p.tables e below (s₁.setTop (mkF m 3 #[rv r0, iv (64 : Int32), .unset] [(.int (32 : Int32)), (.int (64 : Int32))])) _
    refine XS.icmpYes X0.here hx rfl (pc0 := 3) (pc' := 14) rfl (hb hby d13_3) rfl (feq (by decide)).2 (by decide) (by decide) ?_
    refine XS.iloadN X0.here hx rfl (hb hby d13_14) rfl ?_
    exact kt
  obtain ⟨T3, h3, k3, X3, e3, E3, A3, Ex3, st3⟩ := newPE X0 hx hZ (hw _ (List.mem_of_getElem? (i := 58) rfl)) e0 (g := (mkF m 15 #[rv r0, iv (64 : Int32), .unset] [(.int (64 : Int32))])) rfl (hb hby d13_15) rfl (by decide) (cap := 64) (by decide) (by decide) (by decide) (by decide) (ad := "[B") rfl
  obtain ⟨b3, g3⟩ : ∃ z, z = h0.size := ⟨_, rfl⟩
  rw [← g3] at A3 Ex3 st3
  have g_b3 : n0 ≤ b3 := Nat.le_trans (Nat.le_trans Z0 (Keep.refl h0 []).1) (Nat.le_of_eq g3.symm)
  have sz_b3 : h0.size ≤ b3 := Nat.le_trans (Keep.refl h0 []).1 (Nat.le_of_eq g3.symm)
  have V_b3 : Arv Z h3 b3 k3 .byte (64 : Int32) [] (.int (0 : Int32)) := (Arv.new A3 (by decide))
  have K3 : Keep h0 h3 [] := (Keep.refl h0 []).ext E3
  obtain ⟨cl4, Ar4, -, S4, M4, -, -⟩ := id (V_r0.ext E3)
  have pre5 : ∀ t, Steps p.tables e below (T3.setTop (mkF m 25 #[rv r0, iv (64 : Int32), rv b3] [(.int (64 : Int32)), (.int (32 : Int32)), (.int (0 : Int32)), (.ref b3), (.int (0 : Int32)), (.ref r0)])) t → Steps p.tables e below (s₁.setTop (entryFrame m #[(.ref r0), (.int (64 : Int32))] 3)) t := by
    intro t kt
    refine pre2 _ ?_
    show Steps p.tables e below (s₁.setTop (mkF m 15 #[rv r0, iv (64 : Int32), .unset] [(.int (64 : Int32))])) _
    refine st3 _ ?_
    show Steps p.tables e below (T3.setTop (mkF m 17 #[rv r0, iv (64 : Int32), .unset] [(.ref b3)])) _
    refine XS.astoreN X3.here hx rfl (hb hby d13_17) rfl rfl (l' := #[rv r0, iv (64 : Int32), rv b3]) rfl ?_
    refine XS.aloadN X3.here hx rfl (hb hby d13_18) rfl rfl ?_
    refine XS.iconst X3.here hx rfl (hb hby d13_19) ?_
    refine XS.aloadN X3.here hx rfl (hb hby d13_20) rfl rfl ?_
    refine XS.iconst X3.here hx rfl (hb hby d13_21) ?_
    refine XS.aloadN X3.here hx rfl (hb hby d13_22) rfl rfl ?_
    show Steps p.tables e below (T3.setTop (mkF m 23 #[rv r0, iv (64 : Int32), rv b3] [(.ref r0), (.int (0 : Int32)), (.ref b3), (.int (0 : Int32)), (.ref r0)])) _
    refine X3.arraylength hx (by rw [e3]; exact Ar4.1) (State.isArrayOf_alike hZ.alike Ar4.2.1) (g := (mkF m 23 #[rv r0, iv (64 : Int32), rv b3] [(.ref r0), (.int (0 : Int32)), (.ref b3), (.int (0 : Int32)), (.ref r0)])) rfl rfl (hb hby d13_23) _ ?_
    rw [len_of S4 M4]
    show Steps p.tables e below (T3.setTop (mkF m 24 #[rv r0, iv (64 : Int32), rv b3] [(.int (32 : Int32)), (.int (0 : Int32)), (.ref b3), (.int (0 : Int32)), (.ref r0)])) _
    refine XS.iloadN X3.here hx rfl (hb hby d13_24) rfl ?_
    exact kt
  obtain ⟨_, _, ⟨T6, L6, k6, n6⟩, -, X6, ⟨Lc6, hQ6, l6, y6, z6⟩, st6⟩ := Jvm.LawKit.callS X3 hx (y := (⟨"java/lang/Math", "min", "(II)I"⟩ : MethodName)) hown (mvT hZ (hw _ (List.mem_of_getElem? (i := 78) rfl))) (mvT hZ (hw _ (List.mem_of_getElem? (i := 79) rfl))) (mvT hZ (hw _ (List.mem_of_getElem? (i := 80) rfl))) (mvT hZ (hw _ (List.mem_of_getElem? (i := 81) rfl))) (by decide) (backOf (W := 4) (rm11v32 l Z a0 hw []  h3 n0 (Nat.le_trans Z0 K3.1)) hZ (hw _ (List.mem_of_getElem? (i := 81) rfl)) (hw _ (List.mem_of_getElem? (i := 80) rfl)) (by decide) (by decide)) (g := (mkF m 25 #[rv r0, iv (64 : Int32), rv b3] [(.int (64 : Int32)), (.int (32 : Int32)), (.int (0 : Int32)), (.ref b3), (.int (0 : Int32)), (.ref r0)])) rfl (by rw [hml]; rfl) (argsL := [(.int (32 : Int32)), (.int (64 : Int32))]) (rest := [(.int (0 : Int32)), (.ref b3), (.int (0 : Int32)), (.ref r0)]) (lenOf pd2 rfl) rfl (by show 2 * 0 + _ ≤ _; exact Nat.le_of_eq rfl) (hb hby d13_25) (fun _ _ => ⟨rfl, e3, (by decide : 1 + 0 ≤ _), (by decide : 64 + 0 ≤ _)⟩)
  dsimp only [Pt.U, Pt.locs, Pt.cells, Pt.slots] at X6 l6 y6 z6 st6 hQ6
  subst l6 y6 z6
  obtain ⟨rfl, N6q, hh6⟩ := hQ6
  have N6 := Fr.app N0 N6q
  have pre7 : ∀ t, Steps p.tables e below (T6.setTop (mkF m 28 #[rv r0, iv (64 : Int32), rv b3] [(.int (32 : Int32)), (.int (0 : Int32)), (.ref b3), (.int (0 : Int32)), (.ref r0)])) t → Steps p.tables e below (s₁.setTop (entryFrame m #[(.ref r0), (.int (64 : Int32))] 3)) t := by
    intro t kt
    refine pre5 _ ?_
    show Steps p.tables e below (T3.setTop (mkF m 25 #[rv r0, iv (64 : Int32), rv b3] [(.int (64 : Int32)), (.int (32 : Int32)), (.int (0 : Int32)), (.ref b3), (.int (0 : Int32)), (.ref r0)])) _
    refine st6 _ ?_
    exact kt
  obtain ⟨T8, h8, L8, X8, e8, N8, Kc8, Vc8, st8⟩ := cpA X6 hx hZ hown (hw _ (List.mem_of_getElem? (i := 82) rfl)) (hw _ (List.mem_of_getElem? (i := 85) rfl)) (hw _ (List.mem_of_getElem? (i := 83) rfl)) (hw _ (List.mem_of_getElem? (i := 84) rfl)) hh6 (V_r0.ext E3) (V_b3.pad (pad_rep [] (.int (0 : Int32)) 64)) (Or.inl ⟨rfl, rfl⟩) (by decide) (by decide) (by decide) (by decide) (by decide) rfl (by simp +decide) N6 g_b3 (g := (mkF m 28 #[rv r0, iv (64 : Int32), rv b3] [(.int (32 : Int32)), (.int (0 : Int32)), (.ref b3), (.int (0 : Int32)), (.ref r0)])) rfl (by rw [hml]; rfl) rfl (hb hby d13_28) (by decide) (W := 0) (by show 2 * 0 + _ ≤ _; exact Nat.le_of_eq rfl) (by decide)
  have K8 : Keep h0 h8 [] := K3.trans Kc8 (allS (Or.inr sz_b3) all0)
  have V8 : Arv Z h8 b3 k3 .byte (64 : Int32) [] (.int (0 : Int32)) := Vc8.pad (own_cpall (.int (0 : Int32)) _ _ _ _ _)
  have pre9 : ∀ t, Steps p.tables e below (T8.setTop (mkF m 32 #[rv r0, iv (64 : Int32), rv b3] [(.ref b3)])) t → Steps p.tables e below (s₁.setTop (entryFrame m #[(.ref r0), (.int (64 : Int32))] 3)) t := by
    intro t kt
    refine pre7 _ ?_
    show Steps p.tables e below (T6.setTop (mkF m 28 #[rv r0, iv (64 : Int32), rv b3] [(.int (32 : Int32)), (.int (0 : Int32)), (.ref b3), (.int (0 : Int32)), (.ref r0)])) _
    refine st8 _ ?_
    show Steps p.tables e below (T8.setTop (mkF m 31 #[rv r0, iv (64 : Int32), rv b3] [])) _
    refine XS.aloadN X8.here hx rfl (hb hby d13_31) rfl rfl ?_
    exact kt
  obtain ⟨fs, hr, hrun, hended, hW, hsame⟩ := X8.leave (v := some (.ref b3)) (fun h => by rw [Bd.returns] at h; cases h)
  refine ⟨_, _, pre9 _ ?_, hrun, hended, _, _, rfl, ?_, ⟨_, rfl⟩, hW, hsame.mono (by decide) (by decide)⟩
  · show Steps p.tables e below (T8.setTop (mkF m 32 #[rv r0, iv (64 : Int32), rv b3] [(.ref b3)])) _
    jvm_step X8.here [X8.here.top, hx, (hb hby d13_32), X8.method', Bd.returns, Value.isRef, FieldType.isReference]
    first | (intro acts; rw [hr _ acts rfl rfl rfl]) | rw [hr _ _ rfl rfl rfl]
    exact Steps.refl _
  · show Q13v32 Z r0 k0 h0 n0 _ T8.heap _
    rw [e8]
    exact ⟨b3, k3, rfl, N8, K8, sz_b3, V8, (Ex3.keep Kc8)⟩
theorem d10_0 : decode jdk_65_method_120_code 0 = .ok (.aload_n 2, 1) := by decide +kernel
theorem d10_1 : decode jdk_65_method_120_code 1 = .ok (.ldc 110, 2) := by decide +kernel
theorem d10_3 : decode jdk_65_method_120_code 3 = .ok (.if_acmp .ne 10, 3) := by decide +kernel
theorem d10_6 : decode jdk_65_method_120_code 6 = .ok (.iload_n 1, 1) := by decide +kernel
theorem d10_7 : decode jdk_65_method_120_code 7 = .ok (.anewarray 2, 3) := by decide +kernel
theorem d10_10 : decode jdk_65_method_120_code 10 = .ok (.goto 14, 3) := by decide +kernel
theorem d10_24 : decode jdk_65_method_120_code 24 = .ok (.astore_n 3, 1) := by decide +kernel
theorem d10_25 : decode jdk_65_method_120_code 25 = .ok (.aload_n 0, 1) := by decide +kernel
theorem d10_26 : decode jdk_65_method_120_code 26 = .ok (.iconst 0, 1) := by decide +kernel
theorem d10_27 : decode jdk_65_method_120_code 27 = .ok (.aload_n 3, 1) := by decide +kernel
theorem d10_28 : decode jdk_65_method_120_code 28 = .ok (.iconst 0, 1) := by decide +kernel
theorem d10_29 : decode jdk_65_method_120_code 29 = .ok (.aload_n 0, 1) := by decide +kernel
theorem d10_30 : decode jdk_65_method_120_code 30 = .ok (.arraylength, 1) := by decide +kernel
theorem d10_31 : decode jdk_65_method_120_code 31 = .ok (.iload_n 1, 1) := by decide +kernel
theorem d10_32 : decode jdk_65_method_120_code 32 = .ok (.invokestatic 304, 3) := by decide +kernel
theorem d10_35 : decode jdk_65_method_120_code 35 = .ok (.invokestatic 150, 3) := by decide +kernel
theorem d10_38 : decode jdk_65_method_120_code 38 = .ok (.aload_n 3, 1) := by decide +kernel
theorem d10_39 : decode jdk_65_method_120_code 39 = .ok (.areturn, 1) := by decide +kernel
theorem ef_10v32 (m : MethodId) (x0 : Addr) (x1 : Int32) (x2 : Addr) : entryFrame m #[(.ref x0), (.int x1), (.ref x2)] 4 = mkF m 0 #[.val (.ref x0), .val (.int x1), .val (.ref x2), .unset] [] := by first | (simp [entryFrame, mkF, argsToLocals, Value.category]; done) | rfl
def Q10v32 (Z : State) (r0 : Addr) (mr : Addr) (k0 : ClassId) (h0 : Heap) (n0 : Nat) (v : Option Value) (h : Heap) (L : List Loc) : Prop := ∃ b k, v = some (.ref b) ∧ Fr n0 L ∧ Keep h0 h [] ∧ h0.size ≤ b ∧ Arv Z h b k (.object "java/lang/Object") (64 : Int32) [] .null ∧ Exa Z h b "[Ljava/lang/Object;" ∧ Ovr Z k "java/lang/Object"
set_option maxRecDepth 65536 in
set_option maxHeartbeats 40000000 in
theorem rm10v32 (l : Launch) (Z : State) (a0 : Array Value) (hw : ∀ d ∈ tables_1, d.before a0 Z = true) (ws : List Jvm.Cond) (r0 : Addr) (mr : Addr) (k0 : ClassId) (h0 : Heap) (n0 : Nat) (Z0 : n0 ≤ h0.size) (M_ : Mir Z "[Ljava/lang/Object;" mr) (V_r0 : Arv Z h0 r0 k0 (.object "java/lang/Object") (32 : Int32) [] .null) :
    MetFree l (⟨"java/util/Arrays", "copyOf", "([Ljava/lang/Object;ILjava/lang/Class;)[Ljava/lang/Object;"⟩ : MethodName) (head1 (Jvm.Cond.code (⟨"java/util/Arrays", "copyOf", "([Ljava/lang/Object;ILjava/lang/Class;)[Ljava/lang/Object;"⟩ : MethodName) jdk_65_method_120_code 4 (some (.array (.object "java/lang/Object"))) :: ws) ({ frames := 1, cells := 1, slots := 64, locals := 18 } : Room)) (fun a U => a = #[(.ref r0), (.int (64 : Int32)), (.ref mr)] ∧ Z.Warmed39 U.vm ∧ U.heap = h0) (fun _ _ _ _ _ => True) (fun _ U o U' => ∃ v L, o = .returned v ∧ Q10v32 Z r0 mr k0 h0 n0 v U'.heap L ∧ FrameEnd U o U' L ({ frames := 1, cells := 1, slots := 64, locals := 18 } : Room).cells ({ frames := 1, cells := 1, slots := 64, locals := 18 } : Room).slots) := by
  refine MetFree.of_bodySF (plainFor_of_name pn1) hisR ?_
  intro p e s m args below meth c s₁ Bd hml0 hP hK
  obtain ⟨rfl, hZ, hh⟩ := hP
  have hx := Bd.exec
  have hby := Bd.bytes
  have hml : c.maxLocals = 4 := hml0
  have hown : s.vm.findClass "java/util/Arrays" = some m.cls := findClass_of_methodNamed Bd.named
  have hnm := (name_of_methodNamed Bd.named Bd.method).1
  have X0 : Stand p l e ({ frames := 1, cells := 1, slots := 64, locals := 18 } : Room) s m #[(.ref r0), (.int (64 : Int32)), (.ref mr)] below meth c s₁ [] 0 0 := Stand.of_body Bd
  have e0 : s₁.heap = h0 := by rw [← hh, Bd.state]; rfl
  have N0 := Fr.nil n0
  have pre0 : ∀ t, Steps p.tables e below (s₁.setTop (mkF m 0 #[rv r0, iv (64 : Int32), rv mr, .unset] [])) t → Steps p.tables e below (s₁.setTop (entryFrame m #[(.ref r0), (.int (64 : Int32)), (.ref mr)] 4)) t := fun t k => castTop (ef_10v32 m r0 (64 : Int32) mr) k
  have pre1 : ∀ t, Steps p.tables e below (s₁.setTop (mkF m 1 #[rv r0, iv (64 : Int32), rv mr, .unset] [(.ref mr)])) t → Steps p.tables e below (s₁.setTop (entryFrame m #[(.ref r0), (.int (64 : Int32)), (.ref mr)] 4)) t := by
    intro t kt
    refine pre0 _ ?_
    show Steps p.tables e below (s₁.setTop (mkF m 0 #[rv r0, iv (64 : Int32), rv mr, .unset] [])) _
    refine XS.aloadN X0.here hx rfl (hb hby d10_0) rfl rfl ?_
    exact kt
  obtain ⟨T2, X2, e2, st2⟩ := own_ldcM X0 hx hZ hown (hw _ (List.mem_of_getElem? (i := 76) rfl)) M_ e0 (g := (mkF m 1 #[rv r0, iv (64 : Int32), rv mr, .unset] [(.ref mr)])) rfl (hb hby d10_1)
  have pre3 : ∀ t, Steps p.tables e below (T2.setTop (mkF m 7 #[rv r0, iv (64 : Int32), rv mr, .unset] [(.int (64 : Int32))])) t → Steps p.tables e below (s₁.setTop (entryFrame m #[(.ref r0), (.int (64 : Int32)), (.ref mr)] 4)) t := by
    intro t kt
    refine pre1 _ ?_
    show Steps p.tables e below (s₁.setTop (mkF m 1 #[rv r0, iv (64 : Int32), rv mr, .unset] [(.ref mr)])) _
    refine st2 _ ?_
    show Steps p.tables e below (T2.setTop (mkF m 3 #[rv r0, iv (64 : Int32), rv mr, .unset] [(.ref mr), (.ref mr)])) _
    refine Jvm.RoadKit.acmp (g := (mkF m 3 #[rv r0, iv (64 : Int32), rv mr, .unset] [(.ref mr), (.ref mr)])) X2 hx rfl rfl rfl (pc0 := 3) (pc' := 6) (same := true) rfl (hb hby d10_3) rfl (decide_eq_true rfl) (by decide) (by decide) ?_
    show Steps p.tables e below (T2.setTop (mkF m 6 #[rv r0, iv (64 : Int32), rv mr, .unset] [])) _
    refine XS.iloadN X2.here hx rfl (hb hby d10_6) rfl ?_
    exact kt
  obtain ⟨T4, h4, k4, X4, e4, E4, A4, Ex4, O4, st4⟩ := newRE X2 hx hZ hown (hw _ (List.mem_of_getElem? (i := 77) rfl)) (hw _ (List.mem_of_getElem? (i := 56) rfl)) e2 (g := (mkF m 7 #[rv r0, iv (64 : Int32), rv mr, .unset] [(.int (64 : Int32))])) rfl (hb hby d10_7) rfl (by decide) (cap := 64) (by decide) (by decide) (by decide) (by decide) (ad := "[Ljava/lang/Object;") rfl
  obtain ⟨b4, g4⟩ : ∃ z, z = h0.size := ⟨_, rfl⟩
  rw [← g4] at A4 Ex4 st4
  have g_b4 : n0 ≤ b4 := Nat.le_trans (Nat.le_trans Z0 (Keep.refl h0 []).1) (Nat.le_of_eq g4.symm)
  have sz_b4 : h0.size ≤ b4 := Nat.le_trans (Keep.refl h0 []).1 (Nat.le_of_eq g4.symm)
  have V_b4 : Arv Z h4 b4 k4 (.object "java/lang/Object") (64 : Int32) [] .null := (Arv.new A4 (by decide))
  have K4 : Keep h0 h4 [] := (Keep.refl h0 []).ext E4
  obtain ⟨cl5, Ar5, -, S5, M5, -, -⟩ := id (V_r0.ext E4)
  have pre6 : ∀ t, Steps p.tables e below (T4.setTop (mkF m 32 #[rv r0, iv (64 : Int32), rv mr, rv b4] [(.int (64 : Int32)), (.int (32 : Int32)), (.int (0 : Int32)), (.ref b4), (.int (0 : Int32)), (.ref r0)])) t → Steps p.tables e below (s₁.setTop (entryFrame m #[(.ref r0), (.int (64 : Int32)), (.ref mr)] 4)) t := by
    intro t kt
    refine pre3 _ ?_
    show Steps p.tables e below (T2.setTop (mkF m 7 #[rv r0, iv (64 : Int32), rv mr, .unset] [(.int (64 : Int32))])) _
    refine st4 _ ?_
    show Steps p.tables e below (T4.setTop (mkF m 10 #[rv r0, iv (64 : Int32), rv mr, .unset] [(.ref b4)])) _
    refine XS.goto X4.here hx rfl (pc0 := 10) (pc' := 24) rfl (hb hby d10_10) (by decide) (by decide) ?_
    refine XS.astoreN X4.here hx rfl (hb hby d10_24) rfl rfl (l' := #[rv r0, iv (64 : Int32), rv mr, rv b4]) rfl ?_
    refine XS.aloadN X4.here hx rfl (hb hby d10_25) rfl rfl ?_
    refine XS.iconst X4.here hx rfl (hb hby d10_26) ?_
    refine XS.aloadN X4.here hx rfl (hb hby d10_27) rfl rfl ?_
    refine XS.iconst X4.here hx rfl (hb hby d10_28) ?_
    show Steps p.tables e below (T4.setTop (mkF m 29 #[rv r0, iv (64 : Int32), rv mr, rv b4] [(.int (0 : Int32)), (.ref b4), (.int (0 : Int32)), (.ref r0)])) _
    refine XS.aloadN X4.here hx rfl (hb hby d10_29) rfl rfl ?_
    refine X4.arraylength hx (by rw [e4]; exact Ar5.1) (State.isArrayOf_alike hZ.alike Ar5.2.1) (g := (mkF m 30 #[rv r0, iv (64 : Int32), rv mr, rv b4] [(.ref r0), (.int (0 : Int32)), (.ref b4), (.int (0 : Int32)), (.ref r0)])) rfl rfl (hb hby d10_30) _ ?_
    rw [len_of S5 M5]
    show Steps p.tables e below (T4.setTop (mkF m 31 #[rv r0, iv (64 : Int32), rv mr, rv b4] [(.int (32 : Int32)), (.int (0 : Int32)), (.ref b4), (.int (0 : Int32)), (.ref r0)])) _
    refine XS.iloadN X4.here hx rfl (hb hby d10_31) rfl ?_
    exact kt
  obtain ⟨_, _, ⟨T7, L7, k7, n7⟩, -, X7, ⟨Lc7, hQ7, l7, y7, z7⟩, st7⟩ := Jvm.LawKit.callS X4 hx (y := (⟨"java/lang/Math", "min", "(II)I"⟩ : MethodName)) hown (mvT hZ (hw _ (List.mem_of_getElem? (i := 78) rfl))) (mvT hZ (hw _ (List.mem_of_getElem? (i := 79) rfl))) (mvT hZ (hw _ (List.mem_of_getElem? (i := 80) rfl))) (mvT hZ (hw _ (List.mem_of_getElem? (i := 81) rfl))) (by decide) (backOf (W := 4) (rm11v32 l Z a0 hw []  h4 n0 (Nat.le_trans Z0 K4.1)) hZ (hw _ (List.mem_of_getElem? (i := 81) rfl)) (hw _ (List.mem_of_getElem? (i := 80) rfl)) (by decide) (by decide)) (g := (mkF m 32 #[rv r0, iv (64 : Int32), rv mr, rv b4] [(.int (64 : Int32)), (.int (32 : Int32)), (.int (0 : Int32)), (.ref b4), (.int (0 : Int32)), (.ref r0)])) rfl (by rw [hml]; rfl) (argsL := [(.int (32 : Int32)), (.int (64 : Int32))]) (rest := [(.int (0 : Int32)), (.ref b4), (.int (0 : Int32)), (.ref r0)]) (lenOf pd2 rfl) rfl (by show 2 * 0 + _ ≤ _; exact Nat.le_of_eq rfl) (hb hby d10_32) (fun _ _ => ⟨rfl, e4, (by decide : 1 + 0 ≤ _), (by decide : 64 + 0 ≤ _)⟩)
  dsimp only [Pt.U, Pt.locs, Pt.cells, Pt.slots] at X7 l7 y7 z7 st7 hQ7
  subst l7 y7 z7
  obtain ⟨rfl, N7q, hh7⟩ := hQ7
  have N7 := Fr.app N0 N7q
  have pre8 : ∀ t, Steps p.tables e below (T7.setTop (mkF m 35 #[rv r0, iv (64 : Int32), rv mr, rv b4] [(.int (32 : Int32)), (.int (0 : Int32)), (.ref b4), (.int (0 : Int32)), (.ref r0)])) t → Steps p.tables e below (s₁.setTop (entryFrame m #[(.ref r0), (.int (64 : Int32)), (.ref mr)] 4)) t := by
    intro t kt
    refine pre6 _ ?_
    show Steps p.tables e below (T4.setTop (mkF m 32 #[rv r0, iv (64 : Int32), rv mr, rv b4] [(.int (64 : Int32)), (.int (32 : Int32)), (.int (0 : Int32)), (.ref b4), (.int (0 : Int32)), (.ref r0)])) _
    refine st7 _ ?_
    exact kt
  obtain ⟨T9, h9, L9, X9, e9, N9, Kc9, Vc9, st9⟩ := cpA X7 hx hZ hown (hw _ (List.mem_of_getElem? (i := 82) rfl)) (hw _ (List.mem_of_getElem? (i := 85) rfl)) (hw _ (List.mem_of_getElem? (i := 83) rfl)) (hw _ (List.mem_of_getElem? (i := 84) rfl)) hh7 (V_r0.ext E4) (V_b4.pad (pad_rep [] .null 64)) (Or.inr ⟨rfl, rfl, own_stol _ (own_nulls _ _)⟩) (by decide) (by decide) (by decide) (by decide) (by decide) rfl (by simp +decide) N7 g_b4 (g := (mkF m 35 #[rv r0, iv (64 : Int32), rv mr, rv b4] [(.int (32 : Int32)), (.int (0 : Int32)), (.ref b4), (.int (0 : Int32)), (.ref r0)])) rfl (by rw [hml]; rfl) rfl (hb hby d10_35) (by decide) (W := 0) (by show 2 * 0 + _ ≤ _; exact Nat.le_of_eq rfl) (by decide)
  have K9 : Keep h0 h9 [] := K4.trans Kc9 (allS (Or.inr sz_b4) all0)
  have V9 : Arv Z h9 b4 k4 (.object "java/lang/Object") (64 : Int32) [] .null := Vc9.pad (own_cpall .null _ _ _ _ _)
  have pre10 : ∀ t, Steps p.tables e below (T9.setTop (mkF m 39 #[rv r0, iv (64 : Int32), rv mr, rv b4] [(.ref b4)])) t → Steps p.tables e below (s₁.setTop (entryFrame m #[(.ref r0), (.int (64 : Int32)), (.ref mr)] 4)) t := by
    intro t kt
    refine pre8 _ ?_
    show Steps p.tables e below (T7.setTop (mkF m 35 #[rv r0, iv (64 : Int32), rv mr, rv b4] [(.int (32 : Int32)), (.int (0 : Int32)), (.ref b4), (.int (0 : Int32)), (.ref r0)])) _
    refine st9 _ ?_
    show Steps p.tables e below (T9.setTop (mkF m 38 #[rv r0, iv (64 : Int32), rv mr, rv b4] [])) _
    refine XS.aloadN X9.here hx rfl (hb hby d10_38) rfl rfl ?_
    exact kt
  obtain ⟨fs, hr, hrun, hended, hW, hsame⟩ := X9.leave (v := some (.ref b4)) (fun h => by rw [Bd.returns] at h; cases h)
  refine ⟨_, _, pre10 _ ?_, hrun, hended, _, _, rfl, ?_, ⟨_, rfl⟩, hW, hsame.mono (by decide) (by decide)⟩
  · show Steps p.tables e below (T9.setTop (mkF m 39 #[rv r0, iv (64 : Int32), rv mr, rv b4] [(.ref b4)])) _
    jvm_step X9.here [X9.here.top, hx, (hb hby d10_39), X9.method', Bd.returns, Value.isRef, FieldType.isReference]
    first | (intro acts; rw [hr _ acts rfl rfl rfl]) | rw [hr _ _ rfl rfl rfl]
    exact Steps.refl _
  · show Q10v32 Z r0 mr k0 h0 n0 _ T9.heap _
    rw [e9]
    exact ⟨b4, k4, rfl, N9, K9, sz_b4, V9, (Ex4.keep Kc9), O4⟩
theorem d9_0 : decode jdk_65_method_119_code 0 = .ok (.aload_n 0, 1) := by decide +kernel
theorem d9_1 : decode jdk_65_method_119_code 1 = .ok (.iload_n 1, 1) := by decide +kernel
theorem d9_2 : decode jdk_65_method_119_code 2 = .ok (.aload_n 0, 1) := by decide +kernel
theorem d9_3 : decode jdk_65_method_119_code 3 = .ok (.invokevirtual 86, 3) := by decide +kernel
theorem pd3 : parseMethodDescriptor "([Ljava/lang/Object;ILjava/lang/Class;)[Ljava/lang/Object;" = some ⟨[(.array (.object "java/lang/Object")), .int, (.object "java/lang/Class")], some (.array (.object "java/lang/Object"))⟩ := by decide +kernel
theorem d9_6 : decode jdk_65_method_119_code 6 = .ok (.invokestatic 300, 3) := by decide +kernel
theorem d9_9 : decode jdk_65_method_119_code 9 = .ok (.areturn, 1) := by decide +kernel
theorem ef_9v32 (m : MethodId) (x0 : Addr) (x1 : Int32) : entryFrame m #[(.ref x0), (.int x1)] 2 = mkF m 0 #[.val (.ref x0), .val (.int x1)] [] := by first | (simp [entryFrame, mkF, argsToLocals, Value.category]; done) | rfl
def Q9v32 (Z : State) (r0 : Addr) (mr : Addr) (k0 : ClassId) (h0 : Heap) (n0 : Nat) (v : Option Value) (h : Heap) (L : List Loc) : Prop := ∃ b k, v = some (.ref b) ∧ Fr n0 L ∧ Keep h0 h [] ∧ h0.size ≤ b ∧ Arv Z h b k (.object "java/lang/Object") (64 : Int32) [] .null ∧ Exa Z h b "[Ljava/lang/Object;" ∧ Ovr Z k "java/lang/Object"
set_option maxRecDepth 65536 in
set_option maxHeartbeats 40000000 in
theorem rm9v32 (l : Launch) (Z : State) (a0 : Array Value) (hw : ∀ d ∈ tables_1, d.before a0 Z = true) (ws : List Jvm.Cond) (r0 : Addr) (mr : Addr) (k0 : ClassId) (h0 : Heap) (n0 : Nat) (Z0 : n0 ≤ h0.size) (M_ : Mir Z "[Ljava/lang/Object;" mr) (V_r0 : Arv Z h0 r0 k0 (.object "java/lang/Object") (32 : Int32) [] .null) (E_r0 : Exa Z h0 r0 "[Ljava/lang/Object;") :
    MetFree l (⟨"java/util/Arrays", "copyOf", "([Ljava/lang/Object;I)[Ljava/lang/Object;"⟩ : MethodName) (head1 (Jvm.Cond.code (⟨"java/util/Arrays", "copyOf", "([Ljava/lang/Object;I)[Ljava/lang/Object;"⟩ : MethodName) jdk_65_method_119_code 2 (some (.array (.object "java/lang/Object"))) :: ws) ({ frames := 2, cells := 1, slots := 64, locals := 33 } : Room)) (fun a U => a = #[(.ref r0), (.int (64 : Int32))] ∧ Z.Warmed39 U.vm ∧ U.heap = h0) (fun _ _ _ _ _ => True) (fun _ U o U' => ∃ v L, o = .returned v ∧ Q9v32 Z r0 mr k0 h0 n0 v U'.heap L ∧ FrameEnd U o U' L ({ frames := 2, cells := 1, slots := 64, locals := 33 } : Room).cells ({ frames := 2, cells := 1, slots := 64, locals := 33 } : Room).slots) := by
  refine MetFree.of_bodySF (plainFor_of_name pn1) hisR ?_
  intro p e s m args below meth c s₁ Bd hml0 hP hK
  obtain ⟨rfl, hZ, hh⟩ := hP
  have hx := Bd.exec
  have hby := Bd.bytes
  have hml : c.maxLocals = 2 := hml0
  have hown : s.vm.findClass "java/util/Arrays" = some m.cls := findClass_of_methodNamed Bd.named
  have hnm := (name_of_methodNamed Bd.named Bd.method).1
  have X0 : Stand p l e ({ frames := 2, cells := 1, slots := 64, locals := 33 } : Room) s m #[(.ref r0), (.int (64 : Int32))] below meth c s₁ [] 0 0 := Stand.of_body Bd
  have e0 : s₁.heap = h0 := by rw [← hh, Bd.state]; rfl
  have N0 := Fr.nil n0
  have pre0 : ∀ t, Steps p.tables e below (s₁.setTop (mkF m 0 #[rv r0, iv (64 : Int32)] [])) t → Steps p.tables e below (s₁.setTop (entryFrame m #[(.ref r0), (.int (64 : Int32))] 2)) t := fun t k => castTop (ef_9v32 m r0 (64 : Int32)) k
  have pre1 : ∀ t, Steps p.tables e below (s₁.setTop (mkF m 3 #[rv r0, iv (64 : Int32)] [(.ref r0), (.int (64 : Int32)), (.ref r0)])) t → Steps p.tables e below (s₁.setTop (entryFrame m #[(.ref r0), (.int (64 : Int32))] 2)) t := by
    intro t kt
    refine pre0 _ ?_
    show Steps p.tables e below (s₁.setTop (mkF m 0 #[rv r0, iv (64 : Int32)] [])) _
    refine XS.aloadN X0.here hx rfl (hb hby d9_0) rfl rfl ?_
    refine XS.iloadN X0.here hx rfl (hb hby d9_1) rfl ?_
    refine XS.aloadN X0.here hx rfl (hb hby d9_2) rfl rfl ?_
    exact kt
  obtain ⟨T2, X2, e2, st2⟩ := own_gcls X0 hx hZ hown (hw _ (List.mem_of_getElem? (i := 68) rfl)) (hw _ (List.mem_of_getElem? (i := 69) rfl)) (hw _ (List.mem_of_getElem? (i := 71) rfl)) (hw _ (List.mem_of_getElem? (i := 70) rfl)) (hw _ (List.mem_of_getElem? (i := 72) rfl)) e0 E_r0 M_ (g := (mkF m 3 #[rv r0, iv (64 : Int32)] [(.ref r0), (.int (64 : Int32)), (.ref r0)])) rfl (by rw [hml]; rfl) rfl (hb hby d9_3) (by decide) (W := 2) (by show 2 * 0 + _ ≤ _; exact Nat.le_of_eq rfl) (by decide)
  have pre3 : ∀ t, Steps p.tables e below (T2.setTop (mkF m 6 #[rv r0, iv (64 : Int32)] [(.ref mr), (.int (64 : Int32)), (.ref r0)])) t → Steps p.tables e below (s₁.setTop (entryFrame m #[(.ref r0), (.int (64 : Int32))] 2)) t := by
    intro t kt
    refine pre1 _ ?_
    show Steps p.tables e below (s₁.setTop (mkF m 3 #[rv r0, iv (64 : Int32)] [(.ref r0), (.int (64 : Int32)), (.ref r0)])) _
    refine st2 _ ?_
    exact kt
  obtain ⟨_, _, ⟨T4, L4, k4, n4⟩, -, X4, ⟨Lc4, hQ4, l4, y4, z4⟩, st4⟩ := Jvm.LawKit.callS X2 hx (y := (⟨"java/util/Arrays", "copyOf", "([Ljava/lang/Object;ILjava/lang/Class;)[Ljava/lang/Object;"⟩ : MethodName)) hown (mvT hZ (hw _ (List.mem_of_getElem? (i := 73) rfl))) (mvT hZ (hw _ (List.mem_of_getElem? (i := 74) rfl))) (mvT hZ (hw _ (List.mem_of_getElem? (i := 66) rfl))) (mvT hZ (hw _ (List.mem_of_getElem? (i := 75) rfl))) (by decide) (backOf (W := 0) (rm10v32 l Z a0 hw [] r0 mr k0 h0 n0 (Nat.le_trans Z0 (Keep.refl h0 []).1) M_ V_r0) hZ (hw _ (List.mem_of_getElem? (i := 75) rfl)) (hw _ (List.mem_of_getElem? (i := 66) rfl)) (by decide) (by decide)) (g := (mkF m 6 #[rv r0, iv (64 : Int32)] [(.ref mr), (.int (64 : Int32)), (.ref r0)])) rfl (by rw [hml]; rfl) (argsL := [(.ref r0), (.int (64 : Int32)), (.ref mr)]) (rest := []) (lenOf pd3 rfl) rfl (by show 2 * 0 + _ ≤ _; exact Nat.le_of_eq rfl) (hb hby d9_6) (fun _ _ => ⟨rfl, e2, (by decide : 0 + 1 ≤ _), (by decide : 0 + 64 ≤ _)⟩)
  dsimp only [Pt.U, Pt.locs, Pt.cells, Pt.slots] at X4 l4 y4 z4 st4 hQ4
  subst l4 y4 z4
  obtain ⟨y4, ky4, rfl, N4q, Kc4, hy4, Vy4, Ey4, Oy4⟩ := hQ4
  have N4 := Fr.app N0 N4q
  have K4 : Keep h0 T4.heap [] := (Keep.refl h0 []).trans Kc4 all0
  have sz_y4 : h0.size ≤ y4 := Nat.le_trans (Keep.refl h0 []).1 hy4
  have pre5 : ∀ t, Steps p.tables e below (T4.setTop (mkF m 9 #[rv r0, iv (64 : Int32)] [(.ref y4)])) t → Steps p.tables e below (s₁.setTop (entryFrame m #[(.ref r0), (.int (64 : Int32))] 2)) t := by
    intro t kt
    refine pre3 _ ?_
    show Steps p.tables e below (T2.setTop (mkF m 6 #[rv r0, iv (64 : Int32)] [(.ref mr), (.int (64 : Int32)), (.ref r0)])) _
    refine st4 _ ?_
    exact kt
  obtain ⟨fs, hr, hrun, hended, hW, hsame⟩ := X4.leave (v := some (.ref y4)) (fun h => by rw [Bd.returns] at h; cases h)
  refine ⟨_, _, pre5 _ ?_, hrun, hended, _, _, rfl, ?_, ⟨_, rfl⟩, hW, hsame.mono (by decide) (by decide)⟩
  · show Steps p.tables e below (T4.setTop (mkF m 9 #[rv r0, iv (64 : Int32)] [(.ref y4)])) _
    jvm_step X4.here [X4.here.top, hx, (hb hby d9_9), X4.method', Bd.returns, Value.isRef, FieldType.isReference]
    first | (intro acts; rw [hr _ acts rfl rfl rfl]) | rw [hr _ _ rfl rfl rfl]
    exact Steps.refl _
  · show Q9v32 Z r0 mr k0 h0 n0 _ T4.heap _
    exact ⟨y4, ky4, rfl, N4, K4, sz_y4, Vy4, Ey4, Oy4⟩

theorem ef_10v64 (m : MethodId) (x0 : Addr) (x1 : Int32) (x2 : Addr) : entryFrame m #[(.ref x0), (.int x1), (.ref x2)] 4 = mkF m 0 #[.val (.ref x0), .val (.int x1), .val (.ref x2), .unset] [] := by first | (simp [entryFrame, mkF, argsToLocals, Value.category]; done) | rfl
def Q10v64 (Z : State) (r0 : Addr) (mr : Addr) (k0 : ClassId) (h0 : Heap) (n0 : Nat) (v : Option Value) (h : Heap) (L : List Loc) : Prop := ∃ b k, v = some (.ref b) ∧ Fr n0 L ∧ Keep h0 h [] ∧ h0.size ≤ b ∧ Arv Z h b k (.object "java/lang/Object") (128 : Int32) [] .null ∧ Exa Z h b "[Ljava/lang/Object;" ∧ Ovr Z k "java/lang/Object"
set_option maxRecDepth 65536 in
set_option maxHeartbeats 40000000 in
theorem rm10v64 (l : Launch) (Z : State) (a0 : Array Value) (hw : ∀ d ∈ tables_1, d.before a0 Z = true) (ws : List Jvm.Cond) (r0 : Addr) (mr : Addr) (k0 : ClassId) (h0 : Heap) (n0 : Nat) (Z0 : n0 ≤ h0.size) (M_ : Mir Z "[Ljava/lang/Object;" mr) (V_r0 : Arv Z h0 r0 k0 (.object "java/lang/Object") (64 : Int32) [] .null) :
    MetFree l (⟨"java/util/Arrays", "copyOf", "([Ljava/lang/Object;ILjava/lang/Class;)[Ljava/lang/Object;"⟩ : MethodName) (head1 (Jvm.Cond.code (⟨"java/util/Arrays", "copyOf", "([Ljava/lang/Object;ILjava/lang/Class;)[Ljava/lang/Object;"⟩ : MethodName) jdk_65_method_120_code 4 (some (.array (.object "java/lang/Object"))) :: ws) ({ frames := 1, cells := 1, slots := 128, locals := 18 } : Room)) (fun a U => a = #[(.ref r0), (.int (128 : Int32)), (.ref mr)] ∧ Z.Warmed39 U.vm ∧ U.heap = h0) (fun _ _ _ _ _ => True) (fun _ U o U' => ∃ v L, o = .returned v ∧ Q10v64 Z r0 mr k0 h0 n0 v U'.heap L ∧ FrameEnd U o U' L ({ frames := 1, cells := 1, slots := 128, locals := 18 } : Room).cells ({ frames := 1, cells := 1, slots := 128, locals := 18 } : Room).slots) := by
  refine MetFree.of_bodySF (plainFor_of_name pn1) hisR ?_
  intro p e s m args below meth c s₁ Bd hml0 hP hK
  obtain ⟨rfl, hZ, hh⟩ := hP
  have hx := Bd.exec
  have hby := Bd.bytes
  have hml : c.maxLocals = 4 := hml0
  have hown : s.vm.findClass "java/util/Arrays" = some m.cls := findClass_of_methodNamed Bd.named
  have hnm := (name_of_methodNamed Bd.named Bd.method).1
  have X0 : Stand p l e ({ frames := 1, cells := 1, slots := 128, locals := 18 } : Room) s m #[(.ref r0), (.int (128 : Int32)), (.ref mr)] below meth c s₁ [] 0 0 := Stand.of_body Bd
  have e0 : s₁.heap = h0 := by rw [← hh, Bd.state]; rfl
  have N0 := Fr.nil n0
  have pre0 : ∀ t, Steps p.tables e below (s₁.setTop (mkF m 0 #[rv r0, iv (128 : Int32), rv mr, .unset] [])) t → Steps p.tables e below (s₁.setTop (entryFrame m #[(.ref r0), (.int (128 : Int32)), (.ref mr)] 4)) t := fun t k => castTop (ef_10v64 m r0 (128 : Int32) mr) k
  have pre1 : ∀ t, Steps p.tables e below (s₁.setTop (mkF m 1 #[rv r0, iv (128 : Int32), rv mr, .unset] [(.ref mr)])) t → Steps p.tables e below (s₁.setTop (entryFrame m #[(.ref r0), (.int (128 : Int32)), (.ref mr)] 4)) t := by
    intro t kt
    refine pre0 _ ?_
    show Steps p.tables e below (s₁.setTop (mkF m 0 #[rv r0, iv (128 : Int32), rv mr, .unset] [])) _
    refine XS.aloadN X0.here hx rfl (hb hby d10_0) rfl rfl ?_
    exact kt
  obtain ⟨T2, X2, e2, st2⟩ := own_ldcM X0 hx hZ hown (hw _ (List.mem_of_getElem? (i := 76) rfl)) M_ e0 (g := (mkF m 1 #[rv r0, iv (128 : Int32), rv mr, .unset] [(.ref mr)])) rfl (hb hby d10_1)
  have pre3 : ∀ t, Steps p.tables e below (T2.setTop (mkF m 7 #[rv r0, iv (128 : Int32), rv mr, .unset] [(.int (128 : Int32))])) t → Steps p.tables e below (s₁.setTop (entryFrame m #[(.ref r0), (.int (128 : Int32)), (.ref mr)] 4)) t := by
    intro t kt
    refine pre1 _ ?_
    show Steps p.tables e below (s₁.setTop (mkF m 1 #[rv r0, iv (128 : Int32), rv mr, .unset] [(.ref mr)])) _
    refine st2 _ ?_
    show Steps p.tables e below (T2.setTop (mkF m 3 #[rv r0, iv (128 : Int32), rv mr, .unset] [(.ref mr), (.ref mr)])) _
    refine Jvm.RoadKit.acmp (g := (mkF m 3 #[rv r0, iv (128 : Int32), rv mr, .unset] [(.ref mr), (.ref mr)])) X2 hx rfl rfl rfl (pc0 := 3) (pc' := 6) (same := true) rfl (hb hby d10_3) rfl (decide_eq_true rfl) (by decide) (by decide) ?_
    show Steps p.tables e below (T2.setTop (mkF m 6 #[rv r0, iv (128 : Int32), rv mr, .unset] [])) _
    refine XS.iloadN X2.here hx rfl (hb hby d10_6) rfl ?_
    exact kt
  obtain ⟨T4, h4, k4, X4, e4, E4, A4, Ex4, O4, st4⟩ := newRE X2 hx hZ hown (hw _ (List.mem_of_getElem? (i := 77) rfl)) (hw _ (List.mem_of_getElem? (i := 56) rfl)) e2 (g := (mkF m 7 #[rv r0, iv (128 : Int32), rv mr, .unset] [(.int (128 : Int32))])) rfl (hb hby d10_7) rfl (by decide) (cap := 128) (by decide) (by decide) (by decide) (by decide) (ad := "[Ljava/lang/Object;") rfl
  obtain ⟨b4, g4⟩ : ∃ z, z = h0.size := ⟨_, rfl⟩
  rw [← g4] at A4 Ex4 st4
  have g_b4 : n0 ≤ b4 := Nat.le_trans (Nat.le_trans Z0 (Keep.refl h0 []).1) (Nat.le_of_eq g4.symm)
  have sz_b4 : h0.size ≤ b4 := Nat.le_trans (Keep.refl h0 []).1 (Nat.le_of_eq g4.symm)
  have V_b4 : Arv Z h4 b4 k4 (.object "java/lang/Object") (128 : Int32) [] .null := (Arv.new A4 (by decide))
  have K4 : Keep h0 h4 [] := (Keep.refl h0 []).ext E4
  obtain ⟨cl5, Ar5, -, S5, M5, -, -⟩ := id (V_r0.ext E4)
  have pre6 : ∀ t, Steps p.tables e below (T4.setTop (mkF m 32 #[rv r0, iv (128 : Int32), rv mr, rv b4] [(.int (128 : Int32)), (.int (64 : Int32)), (.int (0 : Int32)), (.ref b4), (.int (0 : Int32)), (.ref r0)])) t → Steps p.tables e below (s₁.setTop (entryFrame m #[(.ref r0), (.int (128 : Int32)), (.ref mr)] 4)) t := by
    intro t kt
    refine pre3 _ ?_
    show Steps p.tables e below (T2.setTop (mkF m 7 #[rv r0, iv (128 : Int32), rv mr, .unset] [(.int (128 : Int32))])) _
    refine st4 _ ?_
    show Steps p.tables e below (T4.setTop (mkF m 10 #[rv r0, iv (128 : Int32), rv mr, .unset] [(.ref b4)])) _
    refine XS.goto X4.here hx rfl (pc0 := 10) (pc' := 24) rfl (hb hby d10_10) (by decide) (by decide) ?_
    refine XS.astoreN X4.here hx rfl (hb hby d10_24) rfl rfl (l' := #[rv r0, iv (128 : Int32), rv mr, rv b4]) rfl ?_
    refine XS.aloadN X4.here hx rfl (hb hby d10_25) rfl rfl ?_
    refine XS.iconst X4.here hx rfl (hb hby d10_26) ?_
    refine XS.aloadN X4.here hx rfl (hb hby d10_27) rfl rfl ?_
    refine XS.iconst X4.here hx rfl (hb hby d10_28) ?_
    show Steps p.tables e below (T4.setTop (mkF m 29 #[rv r0, iv (128 : Int32), rv mr, rv b4] [(.int (0 : Int32)), (.ref b4), (.int (0 : Int32)), (.ref r0)])) _
    refine XS.aloadN X4.here hx rfl (hb hby d10_29) rfl rfl ?_
    refine X4.arraylength hx (by rw [e4]; exact Ar5.1) (State.isArrayOf_alike hZ.alike Ar5.2.1) (g := (mkF m 30 #[rv r0, iv (128 : Int32), rv mr, rv b4] [(.ref r0), (.int (0 : Int32)), (.ref b4), (.int (0 : Int32)), (.ref r0)])) rfl rfl (hb hby d10_30) _ ?_
    rw [len_of S5 M5]
    show Steps p.tables e below (T4.setTop (mkF m 31 #[rv r0, iv (128 : Int32), rv mr, rv b4] [(.int (64 : Int32)), (.int (0 : Int32)), (.ref b4), (.int (0 : Int32)), (.ref r0)])) _
    refine XS.iloadN X4.here hx rfl (hb hby d10_31) rfl ?_
    exact kt
  obtain ⟨_, _, ⟨T7, L7, k7, n7⟩, -, X7, ⟨Lc7, hQ7, l7, y7, z7⟩, st7⟩ := Jvm.LawKit.callS X4 hx (y := (⟨"java/lang/Math", "min", "(II)I"⟩ : MethodName)) hown (mvT hZ (hw _ (List.mem_of_getElem? (i := 78) rfl))) (mvT hZ (hw _ (List.mem_of_getElem? (i := 79) rfl))) (mvT hZ (hw _ (List.mem_of_getElem? (i := 80) rfl))) (mvT hZ (hw _ (List.mem_of_getElem? (i := 81) rfl))) (by decide) (backOf (W := 4) (rm11v64 l Z a0 hw []  h4 n0 (Nat.le_trans Z0 K4.1)) hZ (hw _ (List.mem_of_getElem? (i := 81) rfl)) (hw _ (List.mem_of_getElem? (i := 80) rfl)) (by decide) (by decide)) (g := (mkF m 32 #[rv r0, iv (128 : Int32), rv mr, rv b4] [(.int (128 : Int32)), (.int (64 : Int32)), (.int (0 : Int32)), (.ref b4), (.int (0 : Int32)), (.ref r0)])) rfl (by rw [hml]; rfl) (argsL := [(.int (64 : Int32)), (.int (128 : Int32))]) (rest := [(.int (0 : Int32)), (.ref b4), (.int (0 : Int32)), (.ref r0)]) (lenOf pd2 rfl) rfl (by show 2 * 0 + _ ≤ _; exact Nat.le_of_eq rfl) (hb hby d10_32) (fun _ _ => ⟨rfl, e4, (by decide : 1 + 0 ≤ _), (by decide : 128 + 0 ≤ _)⟩)
  dsimp only [Pt.U, Pt.locs, Pt.cells, Pt.slots] at X7 l7 y7 z7 st7 hQ7
  subst l7 y7 z7
  obtain ⟨rfl, N7q, hh7⟩ := hQ7
  have N7 := Fr.app N0 N7q
  have pre8 : ∀ t, Steps p.tables e below (T7.setTop (mkF m 35 #[rv r0, iv (128 : Int32), rv mr, rv b4] [(.int (64 : Int32)), (.int (0 : Int32)), (.ref b4), (.int (0 : Int32)), (.ref r0)])) t → Steps p.tables e below (s₁.setTop (entryFrame m #[(.ref r0), (.int (128 : Int32)), (.ref mr)] 4)) t := by
    intro t kt
    refine pre6 _ ?_
    show Steps p.tables e below (T4.setTop (mkF m 32 #[rv r0, iv (128 : Int32), rv mr, rv b4] [(.int (128 : Int32)), (.int (64 : Int32)), (.int (0 : Int32)), (.ref b4), (.int (0 : Int32)), (.ref r0)])) _
    refine st7 _ ?_
    exact kt
  obtain ⟨T9, h9, L9, X9, e9, N9, Kc9, Vc9, st9⟩ := cpA X7 hx hZ hown (hw _ (List.mem_of_getElem? (i := 82) rfl)) (hw _ (List.mem_of_getElem? (i := 85) rfl)) (hw _ (List.mem_of_getElem? (i := 83) rfl)) (hw _ (List.mem_of_getElem? (i := 84) rfl)) hh7 (V_r0.ext E4) (V_b4.pad (pad_rep [] .null 128)) (Or.inr ⟨rfl, rfl, own_stol _ (own_nulls _ _)⟩) (by decide) (by decide) (by decide) (by decide) (by decide) rfl (by simp +decide) N7 g_b4 (g := (mkF m 35 #[rv r0, iv (128 : Int32), rv mr, rv b4] [(.int (64 : Int32)), (.int (0 : Int32)), (.ref b4), (.int (0 : Int32)), (.ref r0)])) rfl (by rw [hml]; rfl) rfl (hb hby d10_35) (by decide) (W := 0) (by show 2 * 0 + _ ≤ _; exact Nat.le_of_eq rfl) (by decide)
  have K9 : Keep h0 h9 [] := K4.trans Kc9 (allS (Or.inr sz_b4) all0)
  have V9 : Arv Z h9 b4 k4 (.object "java/lang/Object") (128 : Int32) [] .null := Vc9.pad (own_cpall .null _ _ _ _ _)
  have pre10 : ∀ t, Steps p.tables e below (T9.setTop (mkF m 39 #[rv r0, iv (128 : Int32), rv mr, rv b4] [(.ref b4)])) t → Steps p.tables e below (s₁.setTop (entryFrame m #[(.ref r0), (.int (128 : Int32)), (.ref mr)] 4)) t := by
    intro t kt
    refine pre8 _ ?_
    show Steps p.tables e below (T7.setTop (mkF m 35 #[rv r0, iv (128 : Int32), rv mr, rv b4] [(.int (64 : Int32)), (.int (0 : Int32)), (.ref b4), (.int (0 : Int32)), (.ref r0)])) _
    refine st9 _ ?_
    show Steps p.tables e below (T9.setTop (mkF m 38 #[rv r0, iv (128 : Int32), rv mr, rv b4] [])) _
    refine XS.aloadN X9.here hx rfl (hb hby d10_38) rfl rfl ?_
    exact kt
  obtain ⟨fs, hr, hrun, hended, hW, hsame⟩ := X9.leave (v := some (.ref b4)) (fun h => by rw [Bd.returns] at h; cases h)
  refine ⟨_, _, pre10 _ ?_, hrun, hended, _, _, rfl, ?_, ⟨_, rfl⟩, hW, hsame.mono (by decide) (by decide)⟩
  · show Steps p.tables e below (T9.setTop (mkF m 39 #[rv r0, iv (128 : Int32), rv mr, rv b4] [(.ref b4)])) _
    jvm_step X9.here [X9.here.top, hx, (hb hby d10_39), X9.method', Bd.returns, Value.isRef, FieldType.isReference]
    first | (intro acts; rw [hr _ acts rfl rfl rfl]) | rw [hr _ _ rfl rfl rfl]
    exact Steps.refl _
  · show Q10v64 Z r0 mr k0 h0 n0 _ T9.heap _
    rw [e9]
    exact ⟨b4, k4, rfl, N9, K9, sz_b4, V9, (Ex4.keep Kc9), O4⟩

theorem ef_9v64 (m : MethodId) (x0 : Addr) (x1 : Int32) : entryFrame m #[(.ref x0), (.int x1)] 2 = mkF m 0 #[.val (.ref x0), .val (.int x1)] [] := by first | (simp [entryFrame, mkF, argsToLocals, Value.category]; done) | rfl
def Q9v64 (Z : State) (r0 : Addr) (mr : Addr) (k0 : ClassId) (h0 : Heap) (n0 : Nat) (v : Option Value) (h : Heap) (L : List Loc) : Prop := ∃ b k, v = some (.ref b) ∧ Fr n0 L ∧ Keep h0 h [] ∧ h0.size ≤ b ∧ Arv Z h b k (.object "java/lang/Object") (128 : Int32) [] .null ∧ Exa Z h b "[Ljava/lang/Object;" ∧ Ovr Z k "java/lang/Object"
set_option maxRecDepth 65536 in
set_option maxHeartbeats 40000000 in
theorem rm9v64 (l : Launch) (Z : State) (a0 : Array Value) (hw : ∀ d ∈ tables_1, d.before a0 Z = true) (ws : List Jvm.Cond) (r0 : Addr) (mr : Addr) (k0 : ClassId) (h0 : Heap) (n0 : Nat) (Z0 : n0 ≤ h0.size) (M_ : Mir Z "[Ljava/lang/Object;" mr) (V_r0 : Arv Z h0 r0 k0 (.object "java/lang/Object") (64 : Int32) [] .null) (E_r0 : Exa Z h0 r0 "[Ljava/lang/Object;") :
    MetFree l (⟨"java/util/Arrays", "copyOf", "([Ljava/lang/Object;I)[Ljava/lang/Object;"⟩ : MethodName) (head1 (Jvm.Cond.code (⟨"java/util/Arrays", "copyOf", "([Ljava/lang/Object;I)[Ljava/lang/Object;"⟩ : MethodName) jdk_65_method_119_code 2 (some (.array (.object "java/lang/Object"))) :: ws) ({ frames := 2, cells := 1, slots := 128, locals := 33 } : Room)) (fun a U => a = #[(.ref r0), (.int (128 : Int32))] ∧ Z.Warmed39 U.vm ∧ U.heap = h0) (fun _ _ _ _ _ => True) (fun _ U o U' => ∃ v L, o = .returned v ∧ Q9v64 Z r0 mr k0 h0 n0 v U'.heap L ∧ FrameEnd U o U' L ({ frames := 2, cells := 1, slots := 128, locals := 33 } : Room).cells ({ frames := 2, cells := 1, slots := 128, locals := 33 } : Room).slots) := by
  refine MetFree.of_bodySF (plainFor_of_name pn1) hisR ?_
  intro p e s m args below meth c s₁ Bd hml0 hP hK
  obtain ⟨rfl, hZ, hh⟩ := hP
  have hx := Bd.exec
  have hby := Bd.bytes
  have hml : c.maxLocals = 2 := hml0
  have hown : s.vm.findClass "java/util/Arrays" = some m.cls := findClass_of_methodNamed Bd.named
  have hnm := (name_of_methodNamed Bd.named Bd.method).1
  have X0 : Stand p l e ({ frames := 2, cells := 1, slots := 128, locals := 33 } : Room) s m #[(.ref r0), (.int (128 : Int32))] below meth c s₁ [] 0 0 := Stand.of_body Bd
  have e0 : s₁.heap = h0 := by rw [← hh, Bd.state]; rfl
  have N0 := Fr.nil n0
  have pre0 : ∀ t, Steps p.tables e below (s₁.setTop (mkF m 0 #[rv r0, iv (128 : Int32)] [])) t → Steps p.tables e below (s₁.setTop (entryFrame m #[(.ref r0), (.int (128 : Int32))] 2)) t := fun t k => castTop (ef_9v64 m r0 (128 : Int32)) k
  have pre1 : ∀ t, Steps p.tables e below (s₁.setTop (mkF m 3 #[rv r0, iv (128 : Int32)] [(.ref r0), (.int (128 : Int32)), (.ref r0)])) t → Steps p.tables e below (s₁.setTop (entryFrame m #[(.ref r0), (.int (128 : Int32))] 2)) t := by
    intro t kt
    refine pre0 _ ?_
    show Steps p.tables e below (s₁.setTop (mkF m 0 #[rv r0, iv (128 : Int32)] [])) _
    refine XS.aloadN X0.here hx rfl (hb hby d9_0) rfl rfl ?_
    refine XS.iloadN X0.here hx rfl (hb hby d9_1) rfl ?_
    refine XS.aloadN X0.here hx rfl (hb hby d9_2) rfl rfl ?_
    exact kt
  obtain ⟨T2, X2, e2, st2⟩ := own_gcls X0 hx hZ hown (hw _ (List.mem_of_getElem? (i := 68) rfl)) (hw _ (List.mem_of_getElem? (i := 69) rfl)) (hw _ (List.mem_of_getElem? (i := 71) rfl)) (hw _ (List.mem_of_getElem? (i := 70) rfl)) (hw _ (List.mem_of_getElem? (i := 72) rfl)) e0 E_r0 M_ (g := (mkF m 3 #[rv r0, iv (128 : Int32)] [(.ref r0), (.int (128 : Int32)), (.ref r0)])) rfl (by rw [hml]; rfl) rfl (hb hby d9_3) (by decide) (W := 2) (by show 2 * 0 + _ ≤ _; exact Nat.le_of_eq rfl) (by decide)
  have pre3 : ∀ t, Steps p.tables e below (T2.setTop (mkF m 6 #[rv r0, iv (128 : Int32)] [(.ref mr), (.int (128 : Int32)), (.ref r0)])) t → Steps p.tables e below (s₁.setTop (entryFrame m #[(.ref r0), (.int (128 : Int32))] 2)) t := by
    intro t kt
    refine pre1 _ ?_
    show Steps p.tables e below (s₁.setTop (mkF m 3 #[rv r0, iv (128 : Int32)] [(.ref r0), (.int (128 : Int32)), (.ref r0)])) _
    refine st2 _ ?_
    exact kt
  obtain ⟨_, _, ⟨T4, L4, k4, n4⟩, -, X4, ⟨Lc4, hQ4, l4, y4, z4⟩, st4⟩ := Jvm.LawKit.callS X2 hx (y := (⟨"java/util/Arrays", "copyOf", "([Ljava/lang/Object;ILjava/lang/Class;)[Ljava/lang/Object;"⟩ : MethodName)) hown (mvT hZ (hw _ (List.mem_of_getElem? (i := 73) rfl))) (mvT hZ (hw _ (List.mem_of_getElem? (i := 74) rfl))) (mvT hZ (hw _ (List.mem_of_getElem? (i := 66) rfl))) (mvT hZ (hw _ (List.mem_of_getElem? (i := 75) rfl))) (by decide) (backOf (W := 0) (rm10v64 l Z a0 hw [] r0 mr k0 h0 n0 (Nat.le_trans Z0 (Keep.refl h0 []).1) M_ V_r0) hZ (hw _ (List.mem_of_getElem? (i := 75) rfl)) (hw _ (List.mem_of_getElem? (i := 66) rfl)) (by decide) (by decide)) (g := (mkF m 6 #[rv r0, iv (128 : Int32)] [(.ref mr), (.int (128 : Int32)), (.ref r0)])) rfl (by rw [hml]; rfl) (argsL := [(.ref r0), (.int (128 : Int32)), (.ref mr)]) (rest := []) (lenOf pd3 rfl) rfl (by show 2 * 0 + _ ≤ _; exact Nat.le_of_eq rfl) (hb hby d9_6) (fun _ _ => ⟨rfl, e2, (by decide : 0 + 1 ≤ _), (by decide : 0 + 128 ≤ _)⟩)
  dsimp only [Pt.U, Pt.locs, Pt.cells, Pt.slots] at X4 l4 y4 z4 st4 hQ4
  subst l4 y4 z4
  obtain ⟨y4, ky4, rfl, N4q, Kc4, hy4, Vy4, Ey4, Oy4⟩ := hQ4
  have N4 := Fr.app N0 N4q
  have K4 : Keep h0 T4.heap [] := (Keep.refl h0 []).trans Kc4 all0
  have sz_y4 : h0.size ≤ y4 := Nat.le_trans (Keep.refl h0 []).1 hy4
  have pre5 : ∀ t, Steps p.tables e below (T4.setTop (mkF m 9 #[rv r0, iv (128 : Int32)] [(.ref y4)])) t → Steps p.tables e below (s₁.setTop (entryFrame m #[(.ref r0), (.int (128 : Int32))] 2)) t := by
    intro t kt
    refine pre3 _ ?_
    show Steps p.tables e below (T2.setTop (mkF m 6 #[rv r0, iv (128 : Int32)] [(.ref mr), (.int (128 : Int32)), (.ref r0)])) _
    refine st4 _ ?_
    exact kt
  obtain ⟨fs, hr, hrun, hended, hW, hsame⟩ := X4.leave (v := some (.ref y4)) (fun h => by rw [Bd.returns] at h; cases h)
  refine ⟨_, _, pre5 _ ?_, hrun, hended, _, _, rfl, ?_, ⟨_, rfl⟩, hW, hsame.mono (by decide) (by decide)⟩
  · show Steps p.tables e below (T4.setTop (mkF m 9 #[rv r0, iv (128 : Int32)] [(.ref y4)])) _
    jvm_step X4.here [X4.here.top, hx, (hb hby d9_9), X4.method', Bd.returns, Value.isRef, FieldType.isReference]
    first | (intro acts; rw [hr _ acts rfl rfl rfl]) | rw [hr _ _ rfl rfl rfl]
    exact Steps.refl _
  · show Q9v64 Z r0 mr k0 h0 n0 _ T4.heap _
    exact ⟨y4, ky4, rfl, N4, K4, sz_y4, Vy4, Ey4, Oy4⟩
theorem own_selp {s : State} {args : Array Value} {y : MethodName} {n : Nat} (wi : (Jvm.Cond.instantiable y.cls n).before args s = true) (hp : s.PrivateAt y) (hm : (Jvm.Cond.instanceMethod y).before args s = true) (hy : y.cls ≠ "java/lang/invoke/MethodHandle" ∧ y.cls ≠ "java/lang/invoke/VarHandle") : (Jvm.Cond.selects y.cls y y).before args s = true := by
  obtain ⟨t, k, g0, g2, g5, g7, -⟩ := Cond.instantiable_spec wi
  exact selects_self_of_private g0 g2 (Bool.or_eq_false_iff.mp g7).1 hp hm hy
def own_Sl (Z : State) (h : Heap) (x I1 T1 F1 i2 t2 f2 : Addr) (kI kT kF ki kt kf : ClassId) (cap cap2 : Int32) : Prop :=
  Fld Z h x "com/example/loopsmith/loopsmith/queue/Slots" "items" "[[Ljava/lang/Object;" (.ref I1) ∧
  Fld Z h x "com/example/loopsmith/loopsmith/queue/Slots" "times" "[[J" (.ref T1) ∧
  Fld Z h x "com/example/loopsmith/loopsmith/queue/Slots" "flags" "[[B" (.ref F1) ∧
  (∃ w, Fld Z h x "com/example/loopsmith/loopsmith/queue/Slots" "blocks" "I" (.int w)) ∧
  Fld Z h x "com/example/loopsmith/loopsmith/queue/Slots" "capacity" "I" (.int cap) ∧
  Exa Z h I1 "[[Ljava/lang/Object;" ∧
  Exa Z h T1 "[[J" ∧
  Exa Z h F1 "[[B" ∧
  Exa Z h i2 "[Ljava/lang/Object;" ∧
  Exa Z h t2 "[J" ∧
  Exa Z h f2 "[B" ∧
  Arv Z h I1 kI (.array (.object "java/lang/Object")) (1 : Int32) [(.ref i2)] .null ∧
  Arv Z h T1 kT (.array .long) (1 : Int32) [(.ref t2)] .null ∧
  Arv Z h F1 kF (.array .byte) (1 : Int32) [(.ref f2)] .null ∧
  Arv Z h i2 ki (.object "java/lang/Object") cap2 [] .null ∧
  Arv Z h t2 kt .long cap2 [] (.long (0 : Int64)) ∧
  Arv Z h f2 kf .byte cap [] (.int (0 : Int32)) ∧
  OvrA Z kI (.object "java/lang/Object") "[Ljava/lang/Object;" ∧
  OvrA Z kT .long "[J" ∧
  OvrA Z kF .byte "[B" ∧
  Ovr Z ki "java/lang/Object"
theorem pn4 : plainName "com/example/loopsmith/loopsmith/queue/Slots" = true := by first | (simp [plainName, overriddenIn]; done) | decide +kernel
theorem d1_0 : decode prog_42_method_1_code 0 = .ok (.aload_n 0, 1) := by decide +kernel
theorem d1_1 : decode prog_42_method_1_code 1 = .ok (.invokespecial 3, 3) := by decide +kernel
theorem d1_4 : decode prog_42_method_1_code 4 = .ok (.aload_n 0, 1) := by decide +kernel
theorem d1_5 : decode prog_42_method_1_code 5 = .ok (.iconst 0, 1) := by decide +kernel
theorem d1_6 : decode prog_42_method_1_code 6 = .ok (.anewarray 9, 3) := by decide +kernel
theorem d1_9 : decode prog_42_method_1_code 9 = .ok (.putfield 11, 3) := by decide +kernel
theorem d1_12 : decode prog_42_method_1_code 12 = .ok (.aload_n 0, 1) := by decide +kernel
theorem d1_13 : decode prog_42_method_1_code 13 = .ok (.iconst 0, 1) := by decide +kernel
theorem d1_14 : decode prog_42_method_1_code 14 = .ok (.anewarray 15, 3) := by decide +kernel
theorem d1_17 : decode prog_42_method_1_code 17 = .ok (.putfield 17, 3) := by decide +kernel
theorem d1_20 : decode prog_42_method_1_code 20 = .ok (.aload_n 0, 1) := by decide +kernel
theorem d1_21 : decode prog_42_method_1_code 21 = .ok (.iconst 0, 1) := by decide +kernel
theorem d1_22 : decode prog_42_method_1_code 22 = .ok (.anewarray 21, 3) := by decide +kernel
theorem d1_25 : decode prog_42_method_1_code 25 = .ok (.putfield 23, 3) := by decide +kernel
theorem d1_28 : decode prog_42_method_1_code 28 = .ok (.return_, 1) := by decide +kernel
theorem ef_1 (m : MethodId) (x0 : Addr) : entryFrame m #[(.ref x0)] 1 = mkF m 0 #[.val (.ref x0)] [] := by first | (simp [entryFrame, mkF, argsToLocals, Value.category]; done) | rfl
def Q1 (Z : State) (r0 : Addr) (h0 : Heap) (n0 : Nat) (v : Option Value) (h : Heap) (L : List Loc) : Prop := v = none ∧ Fr n0 L ∧ Keep h0 h [r0] ∧ (∃ i t f : Addr, Fld Z h r0 "com/example/loopsmith/loopsmith/queue/Slots" "items" "[[Ljava/lang/Object;" (.ref i) ∧ Fld Z h r0 "com/example/loopsmith/loopsmith/queue/Slots" "times" "[[J" (.ref t) ∧ Fld Z h r0 "com/example/loopsmith/loopsmith/queue/Slots" "flags" "[[B" (.ref f)) ∧ (∃ w, Fld Z h r0 "com/example/loopsmith/loopsmith/queue/Slots" "blocks" "I" (.int w)) ∧ Fld Z h r0 "com/example/loopsmith/loopsmith/queue/Slots" "capacity" "I" (.int (0 : Int32))
set_option maxRecDepth 65536 in
set_option maxHeartbeats 40000000 in
theorem rm1 (l : Launch) (Z : State) (a0 : Array Value) (hw : ∀ d ∈ tables_1, d.before a0 Z = true) (ws : List Jvm.Cond) (r0 : Addr) (h0 : Heap) (n0 : Nat) (Z0 : n0 ≤ h0.size) (F_items_r0 : Fld Z h0 r0 "com/example/loopsmith/loopsmith/queue/Slots" "items" "[[Ljava/lang/Object;" .null) (F_times_r0 : Fld Z h0 r0 "com/example/loopsmith/loopsmith/queue/Slots" "times" "[[J" .null) (F_flags_r0 : Fld Z h0 r0 "com/example/loopsmith/loopsmith/queue/Slots" "flags" "[[B" .null) (F_blocks_r0 : Fld Z h0 r0 "com/example/loopsmith/loopsmith/queue/Slots" "blocks" "I" (.int (0 : Int32))) (F_capacity_r0 : Fld Z h0 r0 "com/example/loopsmith/loopsmith/queue/Slots" "capacity" "I" (.int (0 : Int32))) (E_r0 : Exa Z h0 r0 "com/example/loopsmith/loopsmith/queue/Slots") (g_r0 : n0 ≤ r0) :
    MetFree l (⟨"com/example/loopsmith/loopsmith/queue/Slots", "<init>", "()V"⟩ : MethodName) (head1 (Jvm.Cond.code (⟨"com/example/loopsmith/loopsmith/queue/Slots", "<init>", "()V"⟩ : MethodName) prog_42_method_1_code 1 none :: ws) ({ frames := 1, cells := 3, slots := 0, locals := 12 } : Room)) (fun a U => a = #[(.ref r0)] ∧ Z.Warmed39 U.vm ∧ U.heap = h0) (fun _ _ _ _ _ => True) (fun _ U o U' => ∃ v L, o = .returned v ∧ Q1 Z r0 h0 n0 v U'.heap L ∧ FrameEnd U o U' L ({ frames := 1, cells := 3, slots := 0, locals := 12 } : Room).cells ({ frames := 1, cells := 3, slots := 0, locals := 12 } : Room).slots) := by
  refine MetFree.of_bodySF (plainFor_of_name pn4) hisR ?_
  intro p e s m args below meth c s₁ Bd hml0 hP hK
  obtain ⟨rfl, hZ, hh⟩ := hP
  have hx := Bd.exec
  have hby := Bd.bytes
  have hml : c.maxLocals = 1 := hml0
  have hown : s.vm.findClass "com/example/loopsmith/loopsmith/queue/Slots" = some m.cls := findClass_of_methodNamed Bd.named
  have hnm := (name_of_methodNamed Bd.named Bd.method).1
  have X0 : Stand p l e ({ frames := 1, cells := 3, slots := 0, locals := 12 } : Room) s m #[(.ref r0)] below meth c s₁ [] 0 0 := Stand.of_body Bd
  have e0 : s₁.heap = h0 := by rw [← hh, Bd.state]; rfl
  have N0 := Fr.nil n0
  have pre0 : ∀ t, Steps p.tables e below (s₁.setTop (mkF m 0 #[rv r0] [])) t → Steps p.tables e below (s₁.setTop (entryFrame m #[(.ref r0)] 1)) t := fun t k => castTop (ef_1 m r0) k
  have pre1 : ∀ t, Steps p.tables e below (s₁.setTop (mkF m 1 #[rv r0] [(.ref r0)])) t → Steps p.tables e below (s₁.setTop (entryFrame m #[(.ref r0)] 1)) t := by
    intro t kt
    refine pre0 _ ?_
    show Steps p.tables e below (s₁.setTop (mkF m 0 #[rv r0] [])) _
    refine XS.aloadN X0.here hx rfl (hb hby d1_0) rfl rfl ?_
    exact kt
  obtain ⟨T2, X2, e2, st2⟩ := initO X0 hx hZ hown (hw _ (List.mem_of_getElem? (i := 6) rfl)) (hw _ (List.mem_of_getElem? (i := 7) rfl)) (hw _ (List.mem_of_getElem? (i := 8) rfl)) e0 (g := (mkF m 1 #[rv r0] [(.ref r0)])) rfl (by rw [hml]; rfl) rfl (hb hby d1_1) (by decide) (W := 0) (by show 2 * 0 + _ ≤ _; exact Nat.le_of_eq rfl) (by decide)
  have pre3 : ∀ t, Steps p.tables e below (T2.setTop (mkF m 6 #[rv r0] [(.int (0 : Int32)), (.ref r0)])) t → Steps p.tables e below (s₁.setTop (entryFrame m #[(.ref r0)] 1)) t := by
    intro t kt
    refine pre1 _ ?_
    show Steps p.tables e below (s₁.setTop (mkF m 1 #[rv r0] [(.ref r0)])) _
    refine st2 _ ?_
    show Steps p.tables e below (T2.setTop (mkF m 4 #[rv r0] [])) _
    refine XS.aloadN X2.here hx rfl (hb hby d1_4) rfl rfl ?_
    refine XS.iconst X2.here hx rfl (hb hby d1_5) ?_
    exact kt
  obtain ⟨T4, h4, k4, X4, e4, E4, A4, Ex4, O4, st4⟩ := newRA X2 hx hZ hown (ty := (.object "java/lang/Object")) rfl (hw _ (List.mem_of_getElem? (i := 9) rfl)) (hw _ (List.mem_of_getElem? (i := 10) rfl)) e2 (g := (mkF m 6 #[rv r0] [(.int (0 : Int32)), (.ref r0)])) rfl (hb hby d1_6) rfl (by decide) (cap := 0) (by decide) (by decide) (by decide) (by decide) (ad := "[[Ljava/lang/Object;") rfl
  obtain ⟨b4, g4⟩ : ∃ z, z = h0.size := ⟨_, rfl⟩
  rw [← g4] at A4 Ex4 st4
  have g_b4 : n0 ≤ b4 := Nat.le_trans (Nat.le_trans Z0 (Keep.refl h0 [r0]).1) (Nat.le_of_eq g4.symm)
  have sz_b4 : h0.size ≤ b4 := Nat.le_trans (Keep.refl h0 [r0]).1 (Nat.le_of_eq g4.symm)
  have V_b4 : Arv Z h4 b4 k4 (.array (.object "java/lang/Object")) (0 : Int32) [] .null := (Arv.new A4 (by decide))
  have K4 : Keep h0 h4 [r0] := (Keep.refl h0 [r0]).ext E4
  have pre5 : ∀ t, Steps p.tables e below (T4.setTop (mkF m 9 #[rv r0] [(.ref b4), (.ref r0)])) t → Steps p.tables e below (s₁.setTop (entryFrame m #[(.ref r0)] 1)) t := by
    intro t kt
    refine pre3 _ ?_
    show Steps p.tables e below (T2.setTop (mkF m 6 #[rv r0] [(.int (0 : Int32)), (.ref r0)])) _
    refine st4 _ ?_
    exact kt
  obtain ⟨T6, h6, X6, e6, W6, st6⟩ := putF X4 hx hZ hown (host := "") (Or.inl (hw _ (List.mem_of_getElem? (i := 11) rfl))) Via.refl e4 (F_items_r0.ext E4) (E_r0.ext E4) (Or.inl (hw _ (List.mem_of_getElem? (i := 12) rfl))) (hw _ (List.mem_of_getElem? (i := 1) rfl)) (ty := (.array (.array (.object "java/lang/Object")))) (by decide) rfl rfl (g := (mkF m 9 #[rv r0] [(.ref b4), (.ref r0)])) rfl rfl (hb hby d1_9)
  have Fw6 : Fld Z h6 r0 "com/example/loopsmith/loopsmith/queue/Slots" "items" "[[Ljava/lang/Object;" (.ref b4) := (F_items_r0.ext E4).same W6
  have K6 : Keep h0 h6 [r0] := K4.wr W6 (Or.inl (List.mem_of_getElem? (i := 0) rfl))
  have N6 := Fr.snoc X6 N0 g_r0
  have pre7 : ∀ t, Steps p.tables e below (T6.setTop (mkF m 14 #[rv r0] [(.int (0 : Int32)), (.ref r0)])) t → Steps p.tables e below (s₁.setTop (entryFrame m #[(.ref r0)] 1)) t := by
    intro t kt
    refine pre5 _ ?_
    show Steps p.tables e below (T4.setTop (mkF m 9 #[rv r0] [(.ref b4), (.ref r0)])) _
    refine st6 _ ?_
    show Steps p.tables e below (T6.setTop (mkF m 12 #[rv r0] [])) _
    refine XS.aloadN X6.here hx rfl (hb hby d1_12) rfl rfl ?_
    refine XS.iconst X6.here hx rfl (hb hby d1_13) ?_
    exact kt
  obtain ⟨T8, h8, k8, X8, e8, E8, A8, Ex8, O8, st8⟩ := newRA X6 hx hZ hown (ty := .long) rfl (hw _ (List.mem_of_getElem? (i := 13) rfl)) (hw _ (List.mem_of_getElem? (i := 14) rfl)) e6 (g := (mkF m 14 #[rv r0] [(.int (0 : Int32)), (.ref r0)])) rfl (hb hby d1_14) rfl (by decide) (cap := 0) (by decide) (by decide) (by decide) (by decide) (ad := "[[J") rfl
  obtain ⟨b8, g8⟩ : ∃ z, z = h6.size := ⟨_, rfl⟩
  rw [← g8] at A8 Ex8 st8
  have g_b8 : n0 ≤ b8 := Nat.le_trans (Nat.le_trans Z0 K6.1) (Nat.le_of_eq g8.symm)
  have sz_b8 : h0.size ≤ b8 := Nat.le_trans K6.1 (Nat.le_of_eq g8.symm)
  have V_b8 : Arv Z h8 b8 k8 (.array .long) (0 : Int32) [] .null := (Arv.new A8 (by decide))
  have K8 : Keep h0 h8 [r0] := K6.ext E8
  have pre9 : ∀ t, Steps p.tables e below (T8.setTop (mkF m 17 #[rv r0] [(.ref b8), (.ref r0)])) t → Steps p.tables e below (s₁.setTop (entryFrame m #[(.ref r0)] 1)) t := by
    intro t kt
    refine pre7 _ ?_
    show Steps p.tables e below (T6.setTop (mkF m 14 #[rv r0] [(.int (0 : Int32)), (.ref r0)])) _
    refine st8 _ ?_
    exact kt
  obtain ⟨T10, h10, X10, e10, W10, st10⟩ := putF X8 hx hZ hown (host := "") (Or.inl (hw _ (List.mem_of_getElem? (i := 15) rfl))) Via.refl e8 (((F_times_r0.ext E4).other W6 (Or.inr (slot_ne (Or.inl (hw _ (List.mem_of_getElem? (i := 16) rfl))) (Or.inl (hw _ (List.mem_of_getElem? (i := 12) rfl))) (by decide) (t := (.array (.array .long))) (t' := (.array (.array (.object "java/lang/Object")))) (by decide) (by decide)))).ext E8) (((E_r0.ext E4).wr W6).ext E8) (Or.inl (hw _ (List.mem_of_getElem? (i := 16) rfl))) (hw _ (List.mem_of_getElem? (i := 1) rfl)) (ty := (.array (.array .long))) (by decide) rfl rfl (g := (mkF m 17 #[rv r0] [(.ref b8), (.ref r0)])) rfl rfl (hb hby d1_17)
  have Fw10 : Fld Z h10 r0 "com/example/loopsmith/loopsmith/queue/Slots" "times" "[[J" (.ref b8) := (((F_times_r0.ext E4).other W6 (Or.inr (slot_ne (Or.inl (hw _ (List.mem_of_getElem? (i := 16) rfl))) (Or.inl (hw _ (List.mem_of_getElem? (i := 12) rfl))) (by decide) (t := (.array (.array .long))) (t' := (.array (.array (.object "java/lang/Object")))) (by decide) (by decide)))).ext E8).same W10
  have K10 : Keep h0 h10 [r0] := K8.wr W10 (Or.inl (List.mem_of_getElem? (i := 0) rfl))
  have N10 := Fr.snoc X10 N6 g_r0
  have pre11 : ∀ t, Steps p.tables e below (T10.setTop (mkF m 22 #[rv r0] [(.int (0 : Int32)), (.ref r0)])) t → Steps p.tables e below (s₁.setTop (entryFrame m #[(.ref r0)] 1)) t := by
    intro t kt
    refine pre9 _ ?_
    show Steps p.tables e below (T8.setTop (mkF m 17 #[rv r0] [(.ref b8), (.ref r0)])) _
    refine st10 _ ?_
    show Steps p.tables e below (T10.setTop (mkF m 20 #[rv r0] [])) _
    refine XS.aloadN X10.here hx rfl (hb hby d1_20) rfl rfl ?_
    refine XS.iconst X10.here hx rfl (hb hby d1_21) ?_
    exact kt
  obtain ⟨T12, h12, k12, X12, e12, E12, A12, Ex12, O12, st12⟩ := newRA X10 hx hZ hown (ty := .byte) rfl (hw _ (List.mem_of_getElem? (i := 17) rfl)) (hw _ (List.mem_of_getElem? (i := 18) rfl)) e10 (g := (mkF m 22 #[rv r0] [(.int (0 : Int32)), (.ref r0)])) rfl (hb hby d1_22) rfl (by decide) (cap := 0) (by decide) (by decide) (by decide) (by decide) (ad := "[[B") rfl
  obtain ⟨b12, g12⟩ : ∃ z, z = h10.size := ⟨_, rfl⟩
  rw [← g12] at A12 Ex12 st12
  have g_b12 : n0 ≤ b12 := Nat.le_trans (Nat.le_trans Z0 K10.1) (Nat.le_of_eq g12.symm)
  have sz_b12 : h0.size ≤ b12 := Nat.le_trans K10.1 (Nat.le_of_eq g12.symm)
  have V_b12 : Arv Z h12 b12 k12 (.array .byte) (0 : Int32) [] .null := (Arv.new A12 (by decide))
  have K12 : Keep h0 h12 [r0] := K10.ext E12
  have pre13 : ∀ t, Steps p.tables e below (T12.setTop (mkF m 25 #[rv r0] [(.ref b12), (.ref r0)])) t → Steps p.tables e below (s₁.setTop (entryFrame m #[(.ref r0)] 1)) t := by
    intro t kt
    refine pre11 _ ?_
    show Steps p.tables e below (T10.setTop (mkF m 22 #[rv r0] [(.int (0 : Int32)), (.ref r0)])) _
    refine st12 _ ?_
    exact kt
  obtain ⟨T14, h14, X14, e14, W14, st14⟩ := putF X12 hx hZ hown (host := "") (Or.inl (hw _ (List.mem_of_getElem? (i := 19) rfl))) Via.refl e12 (((((F_flags_r0.ext E4).other W6 (Or.inr (slot_ne (Or.inl (hw _ (List.mem_of_getElem? (i := 20) rfl))) (Or.inl (hw _ (List.mem_of_getElem? (i := 12) rfl))) (by decide) (t := (.array (.array .byte))) (t' := (.array (.array (.object "java/lang/Object")))) (by decide) (by decide)))).ext E8).other W10 (Or.inr (slot_ne (Or.inl (hw _ (List.mem_of_getElem? (i := 20) rfl))) (Or.inl (hw _ (List.mem_of_getElem? (i := 16) rfl))) (by decide) (t := (.array (.array .byte))) (t' := (.array (.array .long))) (by decide) (by decide)))).ext E12) (((((E_r0.ext E4).wr W6).ext E8).wr W10).ext E12) (Or.inl (hw _ (List.mem_of_getElem? (i := 20) rfl))) (hw _ (List.mem_of_getElem? (i := 1) rfl)) (ty := (.array (.array .byte))) (by decide) rfl rfl (g := (mkF m 25 #[rv r0] [(.ref b12), (.ref r0)])) rfl rfl (hb hby d1_25)
  have Fw14 : Fld Z h14 r0 "com/example/loopsmith/loopsmith/queue/Slots" "flags" "[[B" (.ref b12) := (((((F_flags_r0.ext E4).other W6 (Or.inr (slot_ne (Or.inl (hw _ (List.mem_of_getElem? (i := 20) rfl))) (Or.inl (hw _ (List.mem_of_getElem? (i := 12) rfl))) (by decide) (t := (.array (.array .byte))) (t' := (.array (.array (.object "java/lang/Object")))) (by decide) (by decide)))).ext E8).other W10 (Or.inr (slot_ne (Or.inl (hw _ (List.mem_of_getElem? (i := 20) rfl))) (Or.inl (hw _ (List.mem_of_getElem? (i := 16) rfl))) (by decide) (t := (.array (.array .byte))) (t' := (.array (.array .long))) (by decide) (by decide)))).ext E12).same W14
  have K14 : Keep h0 h14 [r0] := K12.wr W14 (Or.inl (List.mem_of_getElem? (i := 0) rfl))
  have N14 := Fr.snoc X14 N10 g_r0
  have pre15 : ∀ t, Steps p.tables e below (T14.setTop (mkF m 28 #[rv r0] [])) t → Steps p.tables e below (s₁.setTop (entryFrame m #[(.ref r0)] 1)) t := by
    intro t kt
    refine pre13 _ ?_
    show Steps p.tables e below (T12.setTop (mkF m 25 #[rv r0] [(.ref b12), (.ref r0)])) _
    refine st14 _ ?_
    exact kt
  obtain ⟨fs, hr, hrun, hended, hW, hsame⟩ := X14.leave (v := none) (fun _ => rfl)
  refine ⟨_, _, pre15 _ ?_, hrun, hended, _, _, rfl, ?_, ⟨_, rfl⟩, hW, hsame.mono (by decide) (by decide)⟩
  · show Steps p.tables e below (T14.setTop (mkF m 28 #[rv r0] [])) _
    exact X14.returnOut hx Bd.returns (hb hby d1_28) hr
  · show Q1 Z r0 h0 n0 _ T14.heap _
    rw [e14]
    exact ⟨rfl, N14, K14, ⟨_, _, _, ((((Fw6.ext E8).other W10 (Or.inr (slot_ne (Or.inl (hw _ (List.mem_of_getElem? (i := 12) rfl))) (Or.inl (hw _ (List.mem_of_getElem? (i := 16) rfl))) (by decide) (t := (.array (.array (.object "java/lang/Object")))) (t' := (.array (.array .long))) (by decide) (by decide)))).ext E12).other W14 (Or.inr (slot_ne (Or.inl (hw _ (List.mem_of_getElem? (i := 12) rfl))) (Or.inl (hw _ (List.mem_of_getElem? (i := 20) rfl))) (by decide) (t := (.array (.array (.object "java/lang/Object")))) (t' := (.array (.array .byte))) (by decide) (by decide)))), ((Fw10.ext E12).other W14 (Or.inr (slot_ne (Or.inl (hw _ (List.mem_of_getElem? (i := 16) rfl))) (Or.inl (hw _ (List.mem_of_getElem? (i := 20) rfl))) (by decide) (t := (.array (.array .long))) (t' := (.array (.array .byte))) (by decide) (by decide)))), Fw14⟩, ⟨_, ((((((F_blocks_r0.ext E4).other W6 (Or.inr (slot_ne (Or.inl (hw _ (List.mem_of_getElem? (i := 63) rfl))) (Or.inl (hw _ (List.mem_of_getElem? (i := 12) rfl))) (by decide) (t := .int) (t' := (.array (.array (.object "java/lang/Object")))) (by decide) (by decide)))).ext E8).other W10 (Or.inr (slot_ne (Or.inl (hw _ (List.mem_of_getElem? (i := 63) rfl))) (Or.inl (hw _ (List.mem_of_getElem? (i := 16) rfl))) (by decide) (t := .int) (t' := (.array (.array .long))) (by decide) (by decide)))).ext E12).other W14 (Or.inr (slot_ne (Or.inl (hw _ (List.mem_of_getElem? (i := 63) rfl))) (Or.inl (hw _ (List.mem_of_getElem? (i := 20) rfl))) (by decide) (t := .int) (t' := (.array (.array .byte))) (by decide) (by decide))))⟩, ((((((F_capacity_r0.ext E4).other W6 (Or.inr (slot_ne (Or.inl (hw _ (List.mem_of_getElem? (i := 34) rfl))) (Or.inl (hw _ (List.mem_of_getElem? (i := 12) rfl))) (by decide) (t := .int) (t' := (.array (.array (.object "java/lang/Object")))) (by decide) (by decide)))).ext E8).other W10 (Or.inr (slot_ne (Or.inl (hw _ (List.mem_of_getElem? (i := 34) rfl))) (Or.inl (hw _ (List.mem_of_getElem? (i := 16) rfl))) (by decide) (t := .int) (t' := (.array (.array .long))) (by decide) (by decide)))).ext E12).other W14 (Or.inr (slot_ne (Or.inl (hw _ (List.mem_of_getElem? (i := 34) rfl))) (Or.inl (hw _ (List.mem_of_getElem? (i := 20) rfl))) (by decide) (t := .int) (t' := (.array (.array .byte))) (by decide) (by decide))))⟩
theorem d8_0 : decode prog_42_method_3_code 0 = .ok (.aload_n 0, 1) := by decide +kernel
theorem d8_1 : decode prog_42_method_3_code 1 = .ok (.getfield 27, 3) := by decide +kernel
theorem d8_4 : decode prog_42_method_3_code 4 = .ok (.ifCond .ne 9, 3) := by decide +kernel
theorem d8_7 : decode prog_42_method_3_code 7 = .ok (.bipush 16, 2) := by decide +kernel
theorem d8_9 : decode prog_42_method_3_code 9 = .ok (.istore_n 1, 1) := by decide +kernel
theorem d8_10 : decode prog_42_method_3_code 10 = .ok (.goto 32, 3) := by decide +kernel
theorem d8_42 : decode prog_42_method_3_code 42 = .ok (.iload_n 1, 1) := by decide +kernel
theorem d8_43 : decode prog_42_method_3_code 43 = .ok (.ireturn, 1) := by decide +kernel
theorem ef_8c0 (m : MethodId) (x0 : Addr) : entryFrame m #[(.ref x0)] 2 = mkF m 0 #[.val (.ref x0), .unset] [] := by first | (simp [entryFrame, mkF, argsToLocals, Value.category]; done) | rfl
def Q8c0 (Z : State) (r0 : Addr) (h0 : Heap) (n0 : Nat) (v : Option Value) (h : Heap) (L : List Loc) : Prop := v = some (.int (16 : Int32)) ∧ Fr n0 L ∧ h = h0
set_option maxRecDepth 65536 in
set_option maxHeartbeats 40000000 in
theorem rm8c0 (l : Launch) (Z : State) (a0 : Array Value) (hw : ∀ d ∈ tables_1, d.before a0 Z = true) (ws : List Jvm.Cond) (r0 : Addr) (h0 : Heap) (n0 : Nat) (Z0 : n0 ≤ h0.size) (F_capacity_r0 : Fld Z h0 r0 "com/example/loopsmith/loopsmith/queue/Slots" "capacity" "I" (.int (0 : Int32))) :
    MetFree l (⟨"com/example/loopsmith/loopsmith/queue/Slots", "grownCapacity", "()I"⟩ : MethodName) (head1 (Jvm.Cond.code (⟨"com/example/loopsmith/loopsmith/queue/Slots", "grownCapacity", "()I"⟩ : MethodName) prog_42_method_3_code 2 (some .int) :: ws) ({ frames := 0, cells := 0, slots := 0, locals := 0 } : Room)) (fun a U => a = #[(.ref r0)] ∧ Z.Warmed39 U.vm ∧ U.heap = h0) (fun _ _ _ _ _ => True) (fun _ U o U' => ∃ v L, o = .returned v ∧ Q8c0 Z r0 h0 n0 v U'.heap L ∧ FrameEnd U o U' L ({ frames := 0, cells := 0, slots := 0, locals := 0 } : Room).cells ({ frames := 0, cells := 0, slots := 0, locals := 0 } : Room).slots) := by
  refine MetFree.of_bodySF (plainFor_of_name pn4) hisR ?_
  intro p e s m args below meth c s₁ Bd hml0 hP hK
  obtain ⟨rfl, hZ, hh⟩ := hP
  have hx := Bd.exec
  have hby := Bd.bytes
  have hml : c.maxLocals = 2 := hml0
  have hown : s.vm.findClass "com/example/loopsmith/loopsmith/queue/Slots" = some m.cls := findClass_of_methodNamed Bd.named
  have hnm := (name_of_methodNamed Bd.named Bd.method).1
  have X0 : Stand p l e ({ frames := 0, cells := 0, slots := 0, locals := 0 } : Room) s m #[(.ref r0)] below meth c s₁ [] 0 0 := Stand.of_body Bd
  have e0 : s₁.heap = h0 := by rw [← hh, Bd.state]; rfl
  have N0 := Fr.nil n0
  have pre0 : ∀ t, Steps p.tables e below (s₁.setTop (mkF m 0 #[rv r0, .unset] [])) t → Steps p.tables e below (s₁.setTop (entryFrame m #[(.ref r0)] 2)) t := fun t k => castTop (ef_8c0 m r0) k
  have pre1 : ∀ t, Steps p.tables e below (s₁.setTop (mkF m 1 #[rv r0, .unset] [(.ref r0)])) t → Steps p.tables e below (s₁.setTop (entryFrame m #[(.ref r0)] 2)) t := by
    intro t kt
    refine pre0 _ ?_
    show Steps p.tables e below (s₁.setTop (mkF m 0 #[rv r0, .unset] [])) _
    refine XS.aloadN X0.here hx rfl (hb hby d8_0) rfl rfl ?_
    exact kt
  obtain ⟨T2, X2, e2, st2⟩ := getF X0 hx hZ hown (host := "") (Or.inl (hw _ (List.mem_of_getElem? (i := 33) rfl))) Via.refl e0 F_capacity_r0 (g := (mkF m 1 #[rv r0, .unset] [(.ref r0)])) rfl rfl (hb hby d8_1)
  have pre3 : ∀ t, Steps p.tables e below (T2.setTop (mkF m 43 #[rv r0, iv (16 : Int32)] [(.int (16 : Int32))])) t → Steps p.tables e below (s₁.setTop (entryFrame m #[(.ref r0)] 2)) t := by
    intro t kt
    refine pre1 _ ?_
    show Steps p.tables e below (s₁.setTop (mkF m 1 #[rv r0, .unset] [(.ref r0)])) _
    refine st2 _ ?_
    show Steps p.tables e below (T2.setTop (mkF m 4 #[rv r0, .unset] [(.int (0 : Int32))])) _
    refine XS.ifNo X2.here hx rfl (hb hby d8_4) rfl ((if0 _ _).trans (teq (by decide)).2) ?_
    refine XS.bipush X2.here hx rfl (hb hby d8_7) ?_
    refine XS.istoreN X2.here hx rfl (hb hby d8_9) rfl (l' := #[rv r0, iv (16 : Int32)]) rfl ?_
    refine XS.goto X2.here hx rfl (pc0 := 10) (pc' := 42) rfl (hb hby d8_10) (by decide) (by decide) ?_
    refine XS.iloadN X2.here hx rfl (hb hby d8_42) rfl ?_
    exact kt
  obtain ⟨fs, hr, hrun, hended, hW, hsame⟩ := X2.leave (v := some (.int (16 : Int32))) (fun h => by rw [Bd.returns] at h; cases h)
  refine ⟨_, _, pre3 _ ?_, hrun, hended, _, _, rfl, ?_, ⟨_, rfl⟩, hW, hsame.mono (by decide) (by decide)⟩
  · show Steps p.tables e below (T2.setTop (mkF m 43 #[rv r0, iv (16 : Int32)] [(.int (16 : Int32))])) _
    exact retI X2 hx Bd.returns (hb hby d8_43) hr
  · show Q8c0 Z r0 h0 n0 _ T2.heap _
    rw [e2]
    exact ⟨rfl, N0, rfl⟩
theorem d8_13 : decode prog_42_method_3_code 13 = .ok (.aload_n 0, 1) := by decide +kernel
theorem d8_14 : decode prog_42_method_3_code 14 = .ok (.getfield 27, 3) := by decide +kernel
theorem d8_17 : decode prog_42_method_3_code 17 = .ok (.sipush 1024, 3) := by decide +kernel
theorem d8_20 : decode prog_42_method_3_code 20 = .ok (.if_icmp .ge 13, 3) := by decide +kernel
theorem d8_23 : decode prog_42_method_3_code 23 = .ok (.iconst 2, 1) := by decide +kernel
theorem d8_24 : decode prog_42_method_3_code 24 = .ok (.aload_n 0, 1) := by decide +kernel
theorem d8_25 : decode prog_42_method_3_code 25 = .ok (.getfield 27, 3) := by decide +kernel
theorem d8_28 : decode prog_42_method_3_code 28 = .ok (.imul, 1) := by decide +kernel
theorem d8_29 : decode prog_42_method_3_code 29 = .ok (.istore_n 1, 1) := by decide +kernel
theorem d8_30 : decode prog_42_method_3_code 30 = .ok (.goto 12, 3) := by decide +kernel
theorem ef_8c16 (m : MethodId) (x0 : Addr) : entryFrame m #[(.ref x0)] 2 = mkF m 0 #[.val (.ref x0), .unset] [] := by first | (simp [entryFrame, mkF, argsToLocals, Value.category]; done) | rfl
def Q8c16 (Z : State) (r0 : Addr) (h0 : Heap) (n0 : Nat) (v : Option Value) (h : Heap) (L : List Loc) : Prop := v = some (.int (32 : Int32)) ∧ Fr n0 L ∧ h = h0
set_option maxRecDepth 65536 in
set_option maxHeartbeats 40000000 in
theorem rm8c16 (l : Launch) (Z : State) (a0 : Array Value) (hw : ∀ d ∈ tables_1, d.before a0 Z = true) (ws : List Jvm.Cond) (r0 : Addr) (h0 : Heap) (n0 : Nat) (Z0 : n0 ≤ h0.size) (F_capacity_r0 : Fld Z h0 r0 "com/example/loopsmith/loopsmith/queue/Slots" "capacity" "I" (.int (16 : Int32))) :
    MetFree l (⟨"com/example/loopsmith/loopsmith/queue/Slots", "grownCapacity", "()I"⟩ : MethodName) (head1 (Jvm.Cond.code (⟨"com/example/loopsmith/loopsmith/queue/Slots", "grownCapacity", "()I"⟩ : MethodName) prog_42_method_3_code 2 (some .int) :: ws) ({ frames := 0, cells := 0, slots := 0, locals := 0 } : Room)) (fun a U => a = #[(.ref r0)] ∧ Z.Warmed39 U.vm ∧ U.heap = h0) (fun _ _ _ _ _ => True) (fun _ U o U' => ∃ v L, o = .returned v ∧ Q8c16 Z r0 h0 n0 v U'.heap L ∧ FrameEnd U o U' L ({ frames := 0, cells := 0, slots := 0, locals := 0 } : Room).cells ({ frames := 0, cells := 0, slots := 0, locals := 0 } : Room).slots) := by
  refine MetFree.of_bodySF (plainFor_of_name pn4) hisR ?_
  intro p e s m args below meth c s₁ Bd hml0 hP hK
  obtain ⟨rfl, hZ, hh⟩ := hP
  have hx := Bd.exec
  have hby := Bd.bytes
  have hml : c.maxLocals = 2 := hml0
  have hown : s.vm.findClass "com/example/loopsmith/loopsmith/queue/Slots" = some m.cls := findClass_of_methodNamed Bd.named
  have hnm := (name_of_methodNamed Bd.named Bd.method).1
  have X0 : Stand p l e ({ frames := 0, cells := 0, slots := 0, locals := 0 } : Room) s m #[(.ref r0)] below meth c s₁ [] 0 0 := Stand.of_body Bd
  have e0 : s₁.heap = h0 := by rw [← hh, Bd.state]; rfl
  have N0 := Fr.nil n0
  have pre0 : ∀ t, Steps p.tables e below (s₁.setTop (mkF m 0 #[rv r0, .unset] [])) t → Steps p.tables e below (s₁.setTop (entryFrame m #[(.ref r0)] 2)) t := fun t k => castTop (ef_8c16 m r0) k
  have pre1 : ∀ t, Steps p.tables e below (s₁.setTop (mkF m 1 #[rv r0, .unset] [(.ref r0)])) t → Steps p.tables e below (s₁.setTop (entryFrame m #[(.ref r0)] 2)) t := by
    intro t kt
    refine pre0 _ ?_
    show Steps p.tables e below (s₁.setTop (mkF m 0 #[rv r0, .unset] [])) _
    refine XS.aloadN X0.here hx rfl (hb hby d8_0) rfl rfl ?_
    exact kt
  obtain ⟨T2, X2, e2, st2⟩ := getF X0 hx hZ hown (host := "") (Or.inl (hw _ (List.mem_of_getElem? (i := 33) rfl))) Via.refl e0 F_capacity_r0 (g := (mkF m 1 #[rv r0, .unset] [(.ref r0)])) rfl rfl (hb hby d8_1)
  have pre3 : ∀ t, Steps p.tables e below (T2.setTop (mkF m 14 #[rv r0, .unset] [(.ref r0)])) t → Steps p.tables e below (s₁.setTop (entryFrame m #[(.ref r0)] 2)) t := by
    intro t kt
    refine pre1 _ ?_
    show Steps p.tables e below (s₁.setTop (mkF m 1 #[rv r0, .unset] [(.ref r0)])) _
    refine st2 _ ?_
    show Steps p.tables e below (T2.setTop (mkF m 4 #[rv r0, .unset] [(.int (16 : Int32))])) _
    refine XS.ifYes X2.here hx rfl (pc0 := 4) (pc' := 13) rfl (hb hby d8_4) rfl ((if0 _ _).trans (feq (by decide)).2) (by decide) (by decide) ?_
    refine XS.aloadN X2.here hx rfl (hb hby d8_13) rfl rfl ?_
    exact kt
  obtain ⟨T4, X4, e4, st4⟩ := getF X2 hx hZ hown (host := "") (Or.inl (hw _ (List.mem_of_getElem? (i := 33) rfl))) Via.refl e2 F_capacity_r0 (g := (mkF m 14 #[rv r0, .unset] [(.ref r0)])) rfl rfl (hb hby d8_14)
  have pre5 : ∀ t, Steps p.tables e below (T4.setTop (mkF m 25 #[rv r0, .unset] [(.ref r0), (.int (2 : Int32))])) t → Steps p.tables e below (s₁.setTop (entryFrame m #[(.ref r0)] 2)) t := by
    intro t kt
    refine pre3 _ ?_
    show Steps p.tables e below (T2.setTop (mkF m 14 #[rv r0, .unset] [(.ref r0)])) _
    refine st4 _ ?_
    show Steps p.tables e below (T4.setTop (mkF m 17 #[rv r0, .unset] [(.int (16 : Int32))])) _
    refine XS.sipush X4.here hx rfl (hb hby d8_17) ?_
    refine XS.icmpNo X4.here hx rfl (hb hby d8_20) rfl (tlt (by decide)).2.1 ?_
    refine XS.iconst X4.here hx rfl (hb hby d8_23) ?_
    refine XS.aloadN X4.here hx rfl (hb hby d8_24) rfl rfl ?_
    exact kt
  obtain ⟨T6, X6, e6, st6⟩ := getF X4 hx hZ hown (host := "") (Or.inl (hw _ (List.mem_of_getElem? (i := 33) rfl))) Via.refl e4 F_capacity_r0 (g := (mkF m 25 #[rv r0, .unset] [(.ref r0), (.int (2 : Int32))])) rfl rfl (hb hby d8_25)
  have pre7 : ∀ t, Steps p.tables e below (T6.setTop (mkF m 43 #[rv r0, iv (32 : Int32)] [(.int (32 : Int32))])) t → Steps p.tables e below (s₁.setTop (entryFrame m #[(.ref r0)] 2)) t := by
    intro t kt
    refine pre5 _ ?_
    show Steps p.tables e below (T4.setTop (mkF m 25 #[rv r0, .unset] [(.ref r0), (.int (2 : Int32))])) _
    refine st6 _ ?_
    show Steps p.tables e below (T6.setTop (mkF m 28 #[rv r0, .unset] [(.int (16 : Int32)), (.int (2 : Int32))])) _
    refine XS.imul X6.here hx rfl (hb hby d8_28) rfl ?_
    show Steps p.tables e below (T6.setTop (mkF m 29 #[rv r0, .unset] [(.int ((2 : Int32) * (16 : Int32)))])) _
    rw [show ((2 : Int32) * (16 : Int32)) = (32 : Int32) from (by decide)]
    show Steps p.tables e below (T6.setTop (mkF m 29 #[rv r0, .unset] [(.int (32 : Int32))])) _
    refine XS.istoreN X6.here hx rfl (hb hby d8_29) rfl (l' := #[rv r0, iv (32 : Int32)]) rfl ?_
    refine XS.goto X6.here hx rfl (pc0 := 30) (pc' := 42) rfl (hb hby d8_30) (by decide) (by decide) ?_
    refine XS.iloadN X6.here hx rfl (hb hby d8_42) rfl ?_
    exact kt
  obtain ⟨fs, hr, hrun, hended, hW, hsame⟩ := X6.leave (v := some (.int (32 : Int32))) (fun h => by rw [Bd.returns] at h; cases h)
  refine ⟨_, _, pre7 _ ?_, hrun, hended, _, _, rfl, ?_, ⟨_, rfl⟩, hW, hsame.mono (by decide) (by decide)⟩
  · show Steps p.tables e below (T6.setTop (mkF m 43 #[rv r0, iv (32 : Int32)] [(.int (32 : Int32))])) _
    exact retI X6 hx Bd.returns (hb hby d8_43) hr
  · show Q8c16 Z r0 h0 n0 _ T6.heap _
    rw [e6]
    exact ⟨rfl, N0, rfl⟩

theorem ef_8c32 (m : MethodId) (x0 : Addr) : entryFrame m #[(.ref x0)] 2 = mkF m 0 #[.val (.ref x0), .unset] [] := by first | (simp [entryFrame, mkF, argsToLocals, Value.category]; done) | rfl
def Q8c32 (Z : State) (r0 : Addr) (h0 : Heap) (n0 : Nat) (v : Option Value) (h : Heap) (L : List Loc) : Prop := v = some (.int (64 : Int32)) ∧ Fr n0 L ∧ h = h0
set_option maxRecDepth 65536 in
set_option maxHeartbeats 40000000 in
theorem rm8c32 (l : Launch) (Z : State) (a0 : Array Value) (hw : ∀ d ∈ tables_1, d.before a0 Z = true) (ws : List Jvm.Cond) (r0 : Addr) (h0 : Heap) (n0 : Nat) (Z0 : n0 ≤ h0.size) (F_capacity_r0 : Fld Z h0 r0 "com/example/loopsmith/loopsmith/queue/Slots" "capacity" "I" (.int (32 : Int32))) :
    MetFree l (⟨"com/example/loopsmith/loopsmith/queue/Slots", "grownCapacity", "()I"⟩ : MethodName) (head1 (Jvm.Cond.code (⟨"com/example/loopsmith/loopsmith/queue/Slots", "grownCapacity", "()I"⟩ : MethodName) prog_42_method_3_code 2 (some .int) :: ws) ({ frames := 0, cells := 0, slots := 0, locals := 0 } : Room)) (fun a U => a = #[(.ref r0)] ∧ Z.Warmed39 U.vm ∧ U.heap = h0) (fun _ _ _ _ _ => True) (fun _ U o U' => ∃ v L, o = .returned v ∧ Q8c32 Z r0 h0 n0 v U'.heap L ∧ FrameEnd U o U' L ({ frames := 0, cells := 0, slots := 0, locals := 0 } : Room).cells ({ frames := 0, cells := 0, slots := 0, locals := 0 } : Room).slots) := by
  refine MetFree.of_bodySF (plainFor_of_name pn4) hisR ?_
  intro p e s m args below meth c s₁ Bd hml0 hP hK
  obtain ⟨rfl, hZ, hh⟩ := hP
  have hx := Bd.exec
  have hby := Bd.bytes
  have hml : c.maxLocals = 2 := hml0
  have hown : s.vm.findClass "com/example/loopsmith/loopsmith/queue/Slots" = some m.cls := findClass_of_methodNamed Bd.named
  have hnm := (name_of_methodNamed Bd.named Bd.method).1
  have X0 : Stand p l e ({ frames := 0, cells := 0, slots := 0, locals := 0 } : Room) s m #[(.ref r0)] below meth c s₁ [] 0 0 := Stand.of_body Bd
  have e0 : s₁.heap = h0 := by rw [← hh, Bd.state]; rfl
  have N0 := Fr.nil n0
  have pre0 : ∀ t, Steps p.tables e below (s₁.setTop (mkF m 0 #[rv r0, .unset] [])) t → Steps p.tables e below (s₁.setTop (entryFrame m #[(.ref r0)] 2)) t := fun t k => castTop (ef_8c32 m r0) k
  have pre1 : ∀ t, Steps p.tables e below (s₁.setTop (mkF m 1 #[rv r0, .unset] [(.ref r0)])) t → Steps p.tables e below (s₁.setTop (entryFrame m #[(.ref r0)] 2)) t := by
    intro t kt
    refine pre0 _ ?_
    show Steps p.tables e below (s₁.setTop (mkF m 0 #[rv r0, .unset] [])) _
    refine XS.aloadN X0.here hx rfl (hb hby d8_0) rfl rfl ?_
    exact kt
  obtain ⟨T2, X2, e2, st2⟩ := getF X0 hx hZ hown (host := "") (Or.inl (hw _ (List.mem_of_getElem? (i := 33) rfl))) Via.refl e0 F_capacity_r0 (g := (mkF m 1 #[rv r0, .unset] [(.ref r0)])) rfl rfl (hb hby d8_1)
  have pre3 : ∀ t, Steps p.tables e below (T2.setTop (mkF m 14 #[rv r0, .unset] [(.ref r0)])) t → Steps p.tables e below (s₁.setTop (entryFrame m #[(.ref r0)] 2)) t := by
    intro t kt
    refine pre1 _ ?_
    show Steps p.tables e below (s₁.setTop (mkF m 1 #[rv r0, .unset] [(.ref r0)])) _
    refine st2 _ ?_
    show Steps p.tables e below (T2.setTop (mkF m 4 #[rv r0, .unset] [(.int (32 : Int32))])) _
    refine XS.ifYes X2.here hx rfl (pc0 := 4) (pc' := 13) rfl (hb hby d8_4) rfl ((if0 _ _).trans (feq (by decide)).2) (by decide) (by decide) ?_
    refine XS.aloadN X2.here hx rfl (hb hby d8_13) rfl rfl ?_
    exact kt
  obtain ⟨T4, X4, e4, st4⟩ := getF X2 hx hZ hown (host := "") (Or.inl (hw _ (List.mem_of_getElem? (i := 33) rfl))) Via.refl e2 F_capacity_r0 (g := (mkF m 14 #[rv r0, .unset] [(.ref r0)])) rfl rfl (hb hby d8_14)
  have pre5 : ∀ t, Steps p.tables e below (T4.setTop (mkF m 25 #[rv r0, .unset] [(.ref r0), (.int (2 : Int32))])) t → Steps p.tables e below (s₁.setTop (entryFrame m #[(.ref r0)] 2)) t := by
    intro t kt
    refine pre3 _ ?_
    show Steps p.tables e below (T2.setTop (mkF m 14 #[rv r0, .unset] [(.ref r0)])) _
    refine st4 _ ?_
    show Steps p.tables e below (T4.setTop (mkF m 17 #[rv r0, .unset] [(.int (32 : Int32))])) _
    refine XS.sipush X4.here hx rfl (hb hby d8_17) ?_
    refine XS.icmpNo X4.here hx rfl (hb hby d8_20) rfl (tlt (by decide)).2.1 ?_
    refine XS.iconst X4.here hx rfl (hb hby d8_23) ?_
    refine XS.aloadN X4.here hx rfl (hb hby d8_24) rfl rfl ?_
    exact kt
  obtain ⟨T6, X6, e6, st6⟩ := getF X4 hx hZ hown (host := "") (Or.inl (hw _ (List.mem_of_getElem? (i := 33) rfl))) Via.refl e4 F_capacity_r0 (g := (mkF m 25 #[rv r0, .unset] [(.ref r0), (.int (2 : Int32))])) rfl rfl (hb hby d8_25)
  have pre7 : ∀ t, Steps p.tables e below (T6.setTop (mkF m 43 #[rv r0, iv (64 : Int32)] [(.int (64 : Int32))])) t → Steps p.tables e below (s₁.setTop (entryFrame m #[(.ref r0)] 2)) t := by
    intro t kt
    refine pre5 _ ?_
    show Steps p.tables e below (T4.setTop (mkF m 25 #[rv r0, .unset] [(.ref r0), (.int (2 : Int32))])) _
    refine st6 _ ?_
    show Steps p.tables e below (T6.setTop (mkF m 28 #[rv r0, .unset] [(.int (32 : Int32)), (.int (2 : Int32))])) _
    refine XS.imul X6.here hx rfl (hb hby d8_28) rfl ?_
    show Steps p.tables e below (T6.setTop (mkF m 29 #[rv r0, .unset] [(.int ((2 : Int32) * (32 : Int32)))])) _
    rw [show ((2 : Int32) * (32 : Int32)) = (64 : Int32) from (by decide)]
    show Steps p.tables e below (T6.setTop (mkF m 29 #[rv r0, .unset] [(.int (64 : Int32))])) _
    refine XS.istoreN X6.here hx rfl (hb hby d8_29) rfl (l' := #[rv r0, iv (64 : Int32)]) rfl ?_
    refine XS.goto X6.here hx rfl (pc0 := 30) (pc' := 42) rfl (hb hby d8_30) (by decide) (by decide) ?_
    refine XS.iloadN X6.here hx rfl (hb hby d8_42) rfl ?_
    exact kt
  obtain ⟨fs, hr, hrun, hended, hW, hsame⟩ := X6.leave (v := some (.int (64 : Int32))) (fun h => by rw [Bd.returns] at h; cases h)
  refine ⟨_, _, pre7 _ ?_, hrun, hended, _, _, rfl, ?_, ⟨_, rfl⟩, hW, hsame.mono (by decide) (by decide)⟩
  · show Steps p.tables e below (T6.setTop (mkF m 43 #[rv r0, iv (64 : Int32)] [(.int (64 : Int32))])) _
    exact retI X6 hx Bd.returns (hb hby d8_43) hr
  · show Q8c32 Z r0 h0 n0 _ T6.heap _
    rw [e6]
    exact ⟨rfl, N0, rfl⟩
theorem d5_0 : decode prog_42_method_2_code 0 = .ok (.aload_n 0, 1) := by decide +kernel
theorem d5_1 : decode prog_42_method_2_code 1 = .ok (.getfield 27, 3) := by decide +kernel
theorem d5_4 : decode prog_42_method_2_code 4 = .ok (.ireturn, 1) := by decide +kernel
theorem ef_5 (m : MethodId) (x0 : Addr) : entryFrame m #[(.ref x0)] 1 = mkF m 0 #[.val (.ref x0)] [] := by first | (simp [entryFrame, mkF, argsToLocals, Value.category]; done) | rfl
def Q5 (Z : State) (r0 : Addr) (w : Int32) (h0 : Heap) (n0 : Nat) (v : Option Value) (h : Heap) (L : List Loc) : Prop := v = some (.int w) ∧ Fr n0 L ∧ h = h0
set_option maxRecDepth 65536 in
set_option maxHeartbeats 40000000 in
theorem rm5 (l : Launch) (Z : State) (a0 : Array Value) (hw : ∀ d ∈ tables_1, d.before a0 Z = true) (ws : List Jvm.Cond) (r0 : Addr) (w : Int32) (h0 : Heap) (n0 : Nat) (Z0 : n0 ≤ h0.size) (F_capacity_r0 : Fld Z h0 r0 "com/example/loopsmith/loopsmith/queue/Slots" "capacity" "I" (.int w)) :
    MetFree l (⟨"com/example/loopsmith/loopsmith/queue/Slots", "capacity", "()I"⟩ : MethodName) (head1 (Jvm.Cond.code (⟨"com/example/loopsmith/loopsmith/queue/Slots", "capacity", "()I"⟩ : MethodName) prog_42_method_2_code 1 (some .int) :: ws) ({ frames := 0, cells := 0, slots := 0, locals := 0 } : Room)) (fun a U => a = #[(.ref r0)] ∧ Z.Warmed39 U.vm ∧ U.heap = h0) (fun _ _ _ _ _ => True) (fun _ U o U' => ∃ v L, o = .returned v ∧ Q5 Z r0 w h0 n0 v U'.heap L ∧ FrameEnd U o U' L ({ frames := 0, cells := 0, slots := 0, locals := 0 } : Room).cells ({ frames := 0, cells := 0, slots := 0, locals := 0 } : Room).slots) := by
  refine MetFree.of_bodySF (plainFor_of_name pn4) hisR ?_
  intro p e s m args below meth c s₁ Bd hml0 hP hK
  obtain ⟨rfl, hZ, hh⟩ := hP
  have hx := Bd.exec
  have hby := Bd.bytes
  have hml : c.maxLocals = 1 := hml0
  have hown : s.vm.findClass "com/example/loopsmith/loopsmith/queue/Slots" = some m.cls := findClass_of_methodNamed Bd.named
  have hnm := (name_of_methodNamed Bd.named Bd.method).1
  have X0 : Stand p l e ({ frames := 0, cells := 0, slots := 0, locals := 0 } : Room) s m #[(.ref r0)] below meth c s₁ [] 0 0 := Stand.of_body Bd
  have e0 : s₁.heap = h0 := by rw [← hh, Bd.state]; rfl
  have N0 := Fr.nil n0
  have pre0 : ∀ t, Steps p.tables e below (s₁.setTop (mkF m 0 #[rv r0] [])) t → Steps p.tables e below (s₁.setTop (entryFrame m #[(.ref r0)] 1)) t := fun t k => castTop (ef_5 m r0) k
  have pre1 : ∀ t, Steps p.tables e below (s₁.setTop (mkF m 1 #[rv r0] [(.ref r0)])) t → Steps p.tables e below (s₁.setTop (entryFrame m #[(.ref r0)] 1)) t := by
    intro t kt
    refine pre0 _ ?_
    show Steps p.tables e below (s₁.setTop (mkF m 0 #[rv r0] [])) _
    refine XS.aloadN X0.here hx rfl (hb hby d5_0) rfl rfl ?_
    exact kt
  obtain ⟨T2, X2, e2, st2⟩ := getF X0 hx hZ hown (host := "") (Or.inl (hw _ (List.mem_of_getElem? (i := 33) rfl))) Via.refl e0 F_capacity_r0 (g := (mkF m 1 #[rv r0] [(.ref r0)])) rfl rfl (hb hby d5_1)
  have pre3 : ∀ t, Steps p.tables e below (T2.setTop (mkF m 4 #[rv r0] [(.int w)])) t → Steps p.tables e below (s₁.setTop (entryFrame m #[(.ref r0)] 1)) t := by
    intro t kt
    refine pre1 _ ?_
    show Steps p.tables e below (s₁.setTop (mkF m 1 #[rv r0] [(.ref r0)])) _
    refine st2 _ ?_
    exact kt
  obtain ⟨fs, hr, hrun, hended, hW, hsame⟩ := X2.leave (v := some (.int w)) (fun h => by rw [Bd.returns] at h; cases h)
  refine ⟨_, _, pre3 _ ?_, hrun, hended, _, _, rfl, ?_, ⟨_, rfl⟩, hW, hsame.mono (by decide) (by decide)⟩
  · show Steps p.tables e below (T2.setTop (mkF m 4 #[rv r0] [(.int w)])) _
    exact retI X2 hx Bd.returns (hb hby d5_4) hr
  · show Q5 Z r0 w h0 n0 _ T2.heap _
    rw [e2]
    exact ⟨rfl, N0, rfl⟩
theorem d7_0 : decode prog_42_method_15_code 0 = .ok (.aload_n 0, 1) := by decide +kernel
theorem pd5 : parseMethodDescriptor "()I" = some ⟨[], some .int⟩ := by decide +kernel
theorem d7_1 : decode prog_42_method_15_code 1 = .ok (.invokevirtual 79, 3) := by decide +kernel
theorem d7_4 : decode prog_42_method_15_code 4 = .ok (.istore_n 1, 1) := by decide +kernel
theorem d7_5 : decode prog_42_method_15_code 5 = .ok (.aload_n 0, 1) := by decide +kernel
theorem d7_6 : decode prog_42_method_15_code 6 = .ok (.getfield 27, 3) := by decide +kernel
theorem d7_9 : decode prog_42_method_15_code 9 = .ok (.ifCond .ne 12, 3) := by decide +kernel
theorem d7_12 : decode prog_42_method_15_code 12 = .ok (.iconst 2, 1) := by decide +kernel
theorem d7_13 : decode prog_42_method_15_code 13 = .ok (.iload_n 1, 1) := by decide +kernel
theorem d7_14 : decode prog_42_method_15_code 14 = .ok (.imul, 1) := by decide +kernel
theorem d7_15 : decode prog_42_method_15_code 15 = .ok (.anewarray 4, 3) := by decide +kernel
theorem d7_18 : decode prog_42_method_15_code 18 = .ok (.goto 15, 3) := by decide +kernel
theorem d7_33 : decode prog_42_method_15_code 33 = .ok (.astore_n 2, 1) := by decide +kernel
theorem d7_34 : decode prog_42_method_15_code 34 = .ok (.aload_n 0, 1) := by decide +kernel
theorem d7_35 : decode prog_42_method_15_code 35 = .ok (.getfield 27, 3) := by decide +kernel
theorem d7_38 : decode prog_42_method_15_code 38 = .ok (.ifCond .ne 11, 3) := by decide +kernel
theorem d7_41 : decode prog_42_method_15_code 41 = .ok (.iconst 2, 1) := by decide +kernel
theorem d7_42 : decode prog_42_method_15_code 42 = .ok (.iload_n 1, 1) := by decide +kernel
theorem d7_43 : decode prog_42_method_15_code 43 = .ok (.imul, 1) := by decide +kernel
theorem d7_44 : decode prog_42_method_15_code 44 = .ok (.newarray .long, 2) := by decide +kernel
theorem d7_46 : decode prog_42_method_15_code 46 = .ok (.goto 15, 3) := by decide +kernel
theorem d7_61 : decode prog_42_method_15_code 61 = .ok (.astore_n 3, 1) := by decide +kernel
theorem d7_62 : decode prog_42_method_15_code 62 = .ok (.aload_n 0, 1) := by decide +kernel
theorem d7_63 : decode prog_42_method_15_code 63 = .ok (.getfield 27, 3) := by decide +kernel
theorem d7_66 : decode prog_42_method_15_code 66 = .ok (.ifCond .ne 9, 3) := by decide +kernel
theorem d7_69 : decode prog_42_method_15_code 69 = .ok (.iload_n 1, 1) := by decide +kernel
theorem d7_70 : decode prog_42_method_15_code 70 = .ok (.newarray .byte, 2) := by decide +kernel
theorem d7_72 : decode prog_42_method_15_code 72 = .ok (.goto 13, 3) := by decide +kernel
theorem d7_85 : decode prog_42_method_15_code 85 = .ok (.astore 4, 2) := by decide +kernel
theorem d7_87 : decode prog_42_method_15_code 87 = .ok (.aload_n 0, 1) := by decide +kernel
theorem d7_88 : decode prog_42_method_15_code 88 = .ok (.getfield 27, 3) := by decide +kernel
theorem d7_91 : decode prog_42_method_15_code 91 = .ok (.ifCond .ne 10, 3) := by decide +kernel
theorem d7_94 : decode prog_42_method_15_code 94 = .ok (.iconst 1, 1) := by decide +kernel
theorem d7_95 : decode prog_42_method_15_code 95 = .ok (.anewarray 9, 3) := by decide +kernel
theorem d7_98 : decode prog_42_method_15_code 98 = .ok (.goto 7, 3) := by decide +kernel
theorem d7_105 : decode prog_42_method_15_code 105 = .ok (.astore 5, 2) := by decide +kernel
theorem d7_107 : decode prog_42_method_15_code 107 = .ok (.aload_n 0, 1) := by decide +kernel
theorem d7_108 : decode prog_42_method_15_code 108 = .ok (.getfield 27, 3) := by decide +kernel
theorem d7_111 : decode prog_42_method_15_code 111 = .ok (.ifCond .ne 10, 3) := by decide +kernel
theorem d7_114 : decode prog_42_method_15_code 114 = .ok (.iconst 1, 1) := by decide +kernel
theorem d7_115 : decode prog_42_method_15_code 115 = .ok (.anewarray 15, 3) := by decide +kernel
theorem d7_118 : decode prog_42_method_15_code 118 = .ok (.goto 7, 3) := by decide +kernel
theorem d7_125 : decode prog_42_method_15_code 125 = .ok (.astore 6, 2) := by decide +kernel
theorem d7_127 : decode prog_42_method_15_code 127 = .ok (.aload_n 0, 1) := by decide +kernel
theorem d7_128 : decode prog_42_method_15_code 128 = .ok (.getfield 27, 3) := by decide +kernel
theorem d7_131 : decode prog_42_method_15_code 131 = .ok (.ifCond .ne 10, 3) := by decide +kernel
theorem d7_134 : decode prog_42_method_15_code 134 = .ok (.iconst 1, 1) := by decide +kernel
theorem d7_135 : decode prog_42_method_15_code 135 = .ok (.anewarray 21, 3) := by decide +kernel
theorem d7_138 : decode prog_42_method_15_code 138 = .ok (.goto 7, 3) := by decide +kernel
theorem d7_145 : decode prog_42_method_15_code 145 = .ok (.astore 7, 2) := by decide +kernel
theorem d7_147 : decode prog_42_method_15_code 147 = .ok (.aload 5, 2) := by decide +kernel
theorem d7_149 : decode prog_42_method_15_code 149 = .ok (.iconst 0, 1) := by decide +kernel
theorem d7_150 : decode prog_42_method_15_code 150 = .ok (.aload_n 2, 1) := by decide +kernel
theorem d7_151 : decode prog_42_method_15_code 151 = .ok (.aastore, 1) := by decide +kernel
theorem d7_152 : decode prog_42_method_15_code 152 = .ok (.aload 6, 2) := by decide +kernel
theorem d7_154 : decode prog_42_method_15_code 154 = .ok (.iconst 0, 1) := by decide +kernel
theorem d7_155 : decode prog_42_method_15_code 155 = .ok (.aload_n 3, 1) := by decide +kernel
theorem d7_156 : decode prog_42_method_15_code 156 = .ok (.aastore, 1) := by decide +kernel
theorem d7_157 : decode prog_42_method_15_code 157 = .ok (.aload 7, 2) := by decide +kernel
theorem d7_159 : decode prog_42_method_15_code 159 = .ok (.iconst 0, 1) := by decide +kernel
theorem d7_160 : decode prog_42_method_15_code 160 = .ok (.aload 4, 2) := by decide +kernel
theorem d7_162 : decode prog_42_method_15_code 162 = .ok (.aastore, 1) := by decide +kernel
theorem d7_163 : decode prog_42_method_15_code 163 = .ok (.aload_n 0, 1) := by decide +kernel
theorem d7_164 : decode prog_42_method_15_code 164 = .ok (.aload 5, 2) := by decide +kernel
theorem d7_166 : decode prog_42_method_15_code 166 = .ok (.putfield 11, 3) := by decide +kernel
theorem d7_169 : decode prog_42_method_15_code 169 = .ok (.aload_n 0, 1) := by decide +kernel
theorem d7_170 : decode prog_42_method_15_code 170 = .ok (.aload 6, 2) := by decide +kernel
theorem d7_172 : decode prog_42_method_15_code 172 = .ok (.putfield 17, 3) := by decide +kernel
theorem d7_175 : decode prog_42_method_15_code 175 = .ok (.aload_n 0, 1) := by decide +kernel
theorem d7_176 : decode prog_42_method_15_code 176 = .ok (.aload 7, 2) := by decide +kernel
theorem d7_178 : decode prog_42_method_15_code 178 = .ok (.putfield 23, 3) := by decide +kernel
theorem d7_181 : decode prog_42_method_15_code 181 = .ok (.aload_n 0, 1) := by decide +kernel
theorem d7_182 : decode prog_42_method_15_code 182 = .ok (.iconst 1, 1) := by decide +kernel
theorem d7_183 : decode prog_42_method_15_code 183 = .ok (.putfield 45, 3) := by decide +kernel
theorem d7_186 : decode prog_42_method_15_code 186 = .ok (.aload_n 0, 1) := by decide +kernel
theorem d7_187 : decode prog_42_method_15_code 187 = .ok (.iload_n 1, 1) := by decide +kernel
theorem d7_188 : decode prog_42_method_15_code 188 = .ok (.putfield 27, 3) := by decide +kernel
theorem d7_191 : decode prog_42_method_15_code 191 = .ok (.return_, 1) := by decide +kernel
theorem ef_7c0 (m : MethodId) (x0 : Addr) : entryFrame m #[(.ref x0)] 8 = mkF m 0 #[.val (.ref x0), .unset, .unset, .unset, .unset, .unset, .unset, .unset] [] := by first | (simp [entryFrame, mkF, argsToLocals, Value.category]; done) | rfl
def Q7c0 (Z : State) (r0 : Addr) (i0 : Addr) (t0 : Addr) (f0 : Addr) (w0 : Int32) (h0 : Heap) (n0 : Nat) (v : Option Value) (h : Heap) (L : List Loc) : Prop := ∃ zI1 zT1 zF1 zi2 zt2 zf2 : Addr, ∃ zkI zkT zkF zki zkt zkf : ClassId, v = none ∧ Fr n0 L ∧ Keep h0 h [r0] ∧ (n0 ≤ zI1 ∧ n0 ≤ zT1 ∧ n0 ≤ zF1 ∧ n0 ≤ zi2 ∧ n0 ≤ zt2 ∧ n0 ≤ zf2) ∧ own_Sl Z h r0 zI1 zT1 zF1 zi2 zt2 zf2 zkI zkT zkF zki zkt zkf (16 : Int32) (32 : Int32)
set_option maxRecDepth 65536 in
set_option maxHeartbeats 40000000 in
theorem rm7c0 (l : Launch) (Z : State) (a0 : Array Value) (hw : ∀ d ∈ tables_1, d.before a0 Z = true) (ws : List Jvm.Cond) (r0 : Addr) (i0 : Addr) (t0 : Addr) (f0 : Addr) (w0 : Int32) (h0 : Heap) (n0 : Nat) (Z0 : n0 ≤ h0.size) (F_items_r0 : Fld Z h0 r0 "com/example/loopsmith/loopsmith/queue/Slots" "items" "[[Ljava/lang/Object;" (.ref i0)) (F_times_r0 : Fld Z h0 r0 "com/example/loopsmith/loopsmith/queue/Slots" "times" "[[J" (.ref t0)) (F_flags_r0 : Fld Z h0 r0 "com/example/loopsmith/loopsmith/queue/Slots" "flags" "[[B" (.ref f0)) (F_blocks_r0 : Fld Z h0 r0 "com/example/loopsmith/loopsmith/queue/Slots" "blocks" "I" (.int w0)) (F_capacity_r0 : Fld Z h0 r0 "com/example/loopsmith/loopsmith/queue/Slots" "capacity" "I" (.int (0 : Int32))) (E_r0 : Exa Z h0 r0 "com/example/loopsmith/loopsmith/queue/Slots") (g_r0 : n0 ≤ r0) :
    MetFree l (⟨"com/example/loopsmith/loopsmith/queue/Slots", "growFirstBlock", "()V"⟩ : MethodName) (head1 (Jvm.Cond.code (⟨"com/example/loopsmith/loopsmith/queue/Slots", "growFirstBlock", "()V"⟩ : MethodName) prog_42_method_15_code 8 none :: ws) ({ frames := 1, cells := 6, slots := 83, locals := 13 } : Room)) (fun a U => a = #[(.ref r0)] ∧ Z.Warmed39 U.vm ∧ U.heap = h0) (fun _ _ _ _ _ => True) (fun _ U o U' => ∃ v L, o = .returned v ∧ Q7c0 Z r0 i0 t0 f0 w0 h0 n0 v U'.heap L ∧ FrameEnd U o U' L ({ frames := 1, cells := 6, slots := 83, locals := 13 } : Room).cells ({ frames := 1, cells := 6, slots := 83, locals := 13 } : Room).slots) := by
  refine MetFree.of_bodySF (plainFor_of_name pn4) hisR ?_
  intro p e s m args below meth c s₁ Bd hml0 hP hK
  obtain ⟨rfl, hZ, hh⟩ := hP
  have hx := Bd.exec
  have hby := Bd.bytes
  have hml : c.maxLocals = 8 := hml0
  have hown : s.vm.findClass "com/example/loopsmith/loopsmith/queue/Slots" = some m.cls := findClass_of_methodNamed Bd.named
  have hnm := (name_of_methodNamed Bd.named Bd.method).1
  have X0 : Stand p l e ({ frames := 1, cells := 6, slots := 83, locals := 13 } : Room) s m #[(.ref r0)] below meth c s₁ [] 0 0 := Stand.of_body Bd
  have e0 : s₁.heap = h0 := by rw [← hh, Bd.state]; rfl
  have N0 := Fr.nil n0
  have pre0 : ∀ t, Steps p.tables e below (s₁.setTop (mkF m 0 #[rv r0, .unset, .unset, .unset, .unset, .unset, .unset, .unset] [])) t → Steps p.tables e below (s₁.setTop (entryFrame m #[(.ref r0)] 8)) t := fun t k => castTop (ef_7c0 m r0) k
  have pre1 : ∀ t, Steps p.tables e below (s₁.setTop (mkF m 1 #[rv r0, .unset, .unset, .unset, .unset, .unset, .unset, .unset] [(.ref r0)])) t → Steps p.tables e below (s₁.setTop (entryFrame m #[(.ref r0)] 8)) t := by
    intro t kt
    refine pre0 _ ?_
    show Steps p.tables e below (s₁.setTop (mkF m 0 #[rv r0, .unset, .unset, .unset, .unset, .unset, .unset, .unset] [])) _
    refine XS.aloadN X0.here hx rfl (hb hby d7_0) rfl rfl ?_
    exact kt
  obtain ⟨cq2, kq2, q2a, q2b, q2c⟩ := isOf hZ e0 E_r0
  obtain ⟨_, _, ⟨T2, L2, k2, n2⟩, -, X2, ⟨Lc2, hQ2, l2, y2, z2⟩, st2⟩ := X0.virtualBack hx (y := (⟨"com/example/loopsmith/loopsmith/queue/Slots", "grownCapacity", "()I"⟩ : MethodName)) (z := (⟨"com/example/loopsmith/loopsmith/queue/Slots", "grownCapacity", "()I"⟩ : MethodName)) hown (mvT hZ (hw _ (List.mem_of_getElem? (i := 50) rfl))) (mvT hZ (hw _ (List.mem_of_getElem? (i := 51) rfl))) (notFace_of_selects (args := #[]) (mvT hZ (hw _ (List.mem_of_getElem? (i := 53) rfl)))) (mvT hZ (hw _ (List.mem_of_getElem? (i := 53) rfl))) (mvT hZ (hw _ (List.mem_of_getElem? (i := 52) rfl))) (by decide) (backOf (W := 0) (rm8c0 l Z a0 hw [] r0 h0 n0 (Nat.le_trans Z0 (Keep.refl h0 [r0]).1) F_capacity_r0) hZ (hw _ (List.mem_of_getElem? (i := 54) rfl)) (hw _ (List.mem_of_getElem? (i := 2) rfl)) (by decide) (by decide)) q2a q2c (g := (mkF m 1 #[rv r0, .unset, .unset, .unset, .unset, .unset, .unset, .unset] [(.ref r0)])) rfl (by rw [hml]; rfl) (Steps.refl _) (argsL := []) (rest := []) (lenOf pd5 rfl) rfl (by show 2 * 0 + _ ≤ _; exact Nat.le_of_eq rfl) (hb hby d7_1) (fun _ _ => ⟨rfl, e0, (by decide : 0 + 0 ≤ _), (by decide : 0 + 0 ≤ _)⟩)
  dsimp only [Pt.U, Pt.locs, Pt.cells, Pt.slots] at X2 l2 y2 z2 st2 hQ2
  subst l2 y2 z2
  obtain ⟨rfl, N2q, hh2⟩ := hQ2
  have N2 := Fr.app N0 N2q
  have pre3 : ∀ t, Steps p.tables e below (T2.setTop (mkF m 6 #[rv r0, iv (16 : Int32), .unset, .unset, .unset, .unset, .unset, .unset] [(.ref r0)])) t → Steps p.tables e below (s₁.setTop (entryFrame m #[(.ref r0)] 8)) t := by
    intro t kt
    refine pre1 _ ?_
    show Steps p.tables e below (s₁.setTop (mkF m 1 #[rv r0, .unset, .unset, .unset, .unset, .unset, .unset, .unset] [(.ref r0)])) _
    refine st2.trans ?_
    show Steps p.tables e below (T2.setTop (mkF m 4 #[rv r0, .unset, .unset, .unset, .unset, .unset, .unset, .unset] [(.int (16 : Int32))])) _
    refine XS.istoreN X2.here hx rfl (hb hby d7_4) rfl (l' := #[rv r0, iv (16 : Int32), .unset, .unset, .unset, .unset, .unset, .unset]) rfl ?_
    refine XS.aloadN X2.here hx rfl (hb hby d7_5) rfl rfl ?_
    exact kt
  obtain ⟨T4, X4, e4, st4⟩ := getF X2 hx hZ hown (host := "") (Or.inl (hw _ (List.mem_of_getElem? (i := 33) rfl))) Via.refl hh2 F_capacity_r0 (g := (mkF m 6 #[rv r0, iv (16 : Int32), .unset, .unset, .unset, .unset, .unset, .unset] [(.ref r0)])) rfl rfl (hb hby d7_6)
  have pre5 : ∀ t, Steps p.tables e below (T4.setTop (mkF m 15 #[rv r0, iv (16 : Int32), .unset, .unset, .unset, .unset, .unset, .unset] [(.int (32 : Int32))])) t → Steps p.tables e below (s₁.setTop (entryFrame m #[(.ref r0)] 8)) t := by
    intro t kt
    refine pre3 _ ?_
    show Steps p.tables e below (T2.setTop (mkF m 6 #[rv r0, iv (16 : Int32), .unset, .unset, .unset, .unset, .unset, .unset] [(.ref r0)])) _
    refine st4 _ ?_
    show Steps p.tables e below (T4.setTop (mkF m 9 #[rv r0, iv (16 : Int32), .unset, .unset, .unset, .unset, .unset, .unset] [(.int (0 : Int32))])) _
    refine XS.ifNo X4.here hx rfl (hb hby d7_9) rfl ((if0 _ _).trans (teq (by decide)).2) ?_
    refine XS.iconst X4.here hx rfl (hb hby d7_12) ?_
    refine XS.iloadN X4.here hx rfl (hb hby d7_13) rfl ?_
    refine XS.imul X4.here hx rfl (hb hby d7_14) rfl ?_
    show Steps p.tables e below (T4.setTop (mkF m 15 #[rv r0, iv (16 : Int32), .unset, .unset, .unset, .unset, .unset, .unset] [(.int ((2 : Int32) * (16 : Int32)))])) _
    rw [show ((2 : Int32) * (16 : Int32)) = (32 : Int32) from (by decide)]
    exact kt
  obtain ⟨T6, h6, k6, X6, e6, E6, A6, Ex6, O6, st6⟩ := newRE X4 hx hZ hown (hw _ (List.mem_of_getElem? (i := 55) rfl)) (hw _ (List.mem_of_getElem? (i := 56) rfl)) e4 (g := (mkF m 15 #[rv r0, iv (16 : Int32), .unset, .unset, .unset, .unset, .unset, .unset] [(.int (32 : Int32))])) rfl (hb hby d7_15) rfl (by decide) (cap := 32) (by decide) (by decide) (by decide) (by decide) (ad := "[Ljava/lang/Object;") rfl
  obtain ⟨b6, g6⟩ : ∃ z, z = h0.size := ⟨_, rfl⟩
  rw [← g6] at A6 Ex6 st6
  have g_b6 : n0 ≤ b6 := Nat.le_trans (Nat.le_trans Z0 (Keep.refl h0 [r0]).1) (Nat.le_of_eq g6.symm)
  have sz_b6 : h0.size ≤ b6 := Nat.le_trans (Keep.refl h0 [r0]).1 (Nat.le_of_eq g6.symm)
  have V_b6 : Arv Z h6 b6 k6 (.object "java/lang/Object") (32 : Int32) [] .null := (Arv.new A6 (by decide))
  have K6 : Keep h0 h6 [r0] := (Keep.refl h0 [r0]).ext E6
  have pre7 : ∀ t, Steps p.tables e below (T6.setTop (mkF m 35 #[rv r0, iv (16 : Int32), rv b6, .unset, .unset, .unset, .unset, .unset] [(.ref r0)])) t → Steps p.tables e below (s₁.setTop (entryFrame m #[(.ref r0)] 8)) t := by
    intro t kt
    refine pre5 _ ?_
    show Steps p.tables e below (T4.setTop (mkF m 15 #[rv r0, iv (16 : Int32), .unset, .unset, .unset, .unset, .unset, .unset] [(.int (32 : Int32))])) _
    refine st6 _ ?_
    show Steps p.tables e below (T6.setTop (mkF m 18 #[rv r0, iv (16 : Int32), .unset, .unset, .unset, .unset, .unset, .unset] [(.ref b6)])) _
    refine XS.goto X6.here hx rfl (pc0 := 18) (pc' := 33) rfl (hb hby d7_18) (by decide) (by decide) ?_
    refine XS.astoreN X6.here hx rfl (hb hby d7_33) rfl rfl (l' := #[rv r0, iv (16 : Int32), rv b6, .unset, .unset, .unset, .unset, .unset]) rfl ?_
    refine XS.aloadN X6.here hx rfl (hb hby d7_34) rfl rfl ?_
    exact kt
  obtain ⟨T8, X8, e8, st8⟩ := getF X6 hx hZ hown (host := "") (Or.inl (hw _ (List.mem_of_getElem? (i := 33) rfl))) Via.refl e6 (F_capacity_r0.ext E6) (g := (mkF m 35 #[rv r0, iv (16 : Int32), rv b6, .unset, .unset, .unset, .unset, .unset] [(.ref r0)])) rfl rfl (hb hby d7_35)
  have pre9 : ∀ t, Steps p.tables e below (T8.setTop (mkF m 44 #[rv r0, iv (16 : Int32), rv b6, .unset, .unset, .unset, .unset, .unset] [(.int (32 : Int32))])) t → Steps p.tables e below (s₁.setTop (entryFrame m #[(.ref r0)] 8)) t := by
    intro t kt
    refine pre7 _ ?_
    show Steps p.tables e below (T6.setTop (mkF m 35 #[rv r0, iv (16 : Int32), rv b6, .unset, .unset, .unset, .unset, .unset] [(.ref r0)])) _
    refine st8 _ ?_
    show Steps p.tables e below (T8.setTop (mkF m 38 #[rv r0, iv (16 : Int32), rv b6, .unset, .unset, .unset, .unset, .unset] [(.int (0 : Int32))])) _
    refine XS.ifNo X8.here hx rfl (hb hby d7_38) rfl ((if0 _ _).trans (teq (by decide)).2) ?_
    refine XS.iconst X8.here hx rfl (hb hby d7_41) ?_
    refine XS.iloadN X8.here hx rfl (hb hby d7_42) rfl ?_
    refine XS.imul X8.here hx rfl (hb hby d7_43) rfl ?_
    show Steps p.tables e below (T8.setTop (mkF m 44 #[rv r0, iv (16 : Int32), rv b6, .unset, .unset, .unset, .unset, .unset] [(.int ((2 : Int32) * (16 : Int32)))])) _
    rw [show ((2 : Int32) * (16 : Int32)) = (32 : Int32) from (by decide)]
    exact kt
  obtain ⟨T10, h10, k10, X10, e10, E10, A10, Ex10, st10⟩ := newPE X8 hx hZ (hw _ (List.mem_of_getElem? (i := 57) rfl)) e8 (g := (mkF m 44 #[rv r0, iv (16 : Int32), rv b6, .unset, .unset, .unset, .unset, .unset] [(.int (32 : Int32))])) rfl (hb hby d7_44) rfl (by decide) (cap := 32) (by decide) (by decide) (by decide) (by decide) (ad := "[J") rfl
  obtain ⟨b10, g10⟩ : ∃ z, z = h6.size := ⟨_, rfl⟩
  rw [← g10] at A10 Ex10 st10
  have g_b10 : n0 ≤ b10 := Nat.le_trans (Nat.le_trans Z0 K6.1) (Nat.le_of_eq g10.symm)
  have sz_b10 : h0.size ≤ b10 := Nat.le_trans K6.1 (Nat.le_of_eq g10.symm)
  have V_b10 : Arv Z h10 b10 k10 .long (32 : Int32) [] (.long (0 : Int64)) := (Arv.new A10 (by decide))
  have K10 : Keep h0 h10 [r0] := K6.ext E10
  have pre11 : ∀ t, Steps p.tables e below (T10.setTop (mkF m 63 #[rv r0, iv (16 : Int32), rv b6, rv b10, .unset, .unset, .unset, .unset] [(.ref r0)])) t → Steps p.tables e below (s₁.setTop (entryFrame m #[(.ref r0)] 8)) t := by
    intro t kt
    refine pre9 _ ?_
    show Steps p.tables e below (T8.setTop (mkF m 44 #[rv r0, iv (16 : Int32), rv b6, .unset, .unset, .unset, .unset, .unset] [(.int (32 : Int32))])) _
    refine st10 _ ?_
    show Steps p.tables e below (T10.setTop (mkF m 46 #[rv r0, iv (16 : Int32), rv b6, .unset, .unset, .unset, .unset, .unset] [(.ref b10)])) _
    refine XS.goto X10.here hx rfl (pc0 := 46) (pc' := 61) rfl (hb hby d7_46) (by decide) (by decide) ?_
    refine XS.astoreN X10.here hx rfl (hb hby d7_61) rfl rfl (l' := #[rv r0, iv (16 : Int32), rv b6, rv b10, .unset, .unset, .unset, .unset]) rfl ?_
    refine XS.aloadN X10.here hx rfl (hb hby d7_62) rfl rfl ?_
    exact kt
  obtain ⟨T12, X12, e12, st12⟩ := getF X10 hx hZ hown (host := "") (Or.inl (hw _ (List.mem_of_getElem? (i := 33) rfl))) Via.refl e10 ((F_capacity_r0.ext E6).ext E10) (g := (mkF m 63 #[rv r0, iv (16 : Int32), rv b6, rv b10, .unset, .unset, .unset, .unset] [(.ref r0)])) rfl rfl (hb hby d7_63)
  have pre13 : ∀ t, Steps p.tables e below (T12.setTop (mkF m 70 #[rv r0, iv (16 : Int32), rv b6, rv b10, .unset, .unset, .unset, .unset] [(.int (16 : Int32))])) t → Steps p.tables e below (s₁.setTop (entryFrame m #[(.ref r0)] 8)) t := by
    intro t kt
    refine pre11 _ ?_
    show Steps p.tables e below (T10.setTop (mkF m 63 #[rv r0, iv (16 : Int32), rv b6, rv b10, .unset, .unset, .unset, .unset] [(.ref r0)])) _
    refine st12 _ ?_
    show Steps p.tables e below (T12.setTop (mkF m 66 #[rv r0, iv (16 : Int32), rv b6, rv b10, .unset, .unset, .unset, .unset] [(.int (0 : Int32))])) _
    refine XS.ifNo X12.here hx rfl (hb hby d7_66) rfl ((if0 _ _).trans (teq (by decide)).2) ?_
    refine XS.iloadN X12.here hx rfl (hb hby d7_69) rfl ?_
    exact kt
  obtain ⟨T14, h14, k14, X14, e14, E14, A14, Ex14, st14⟩ := newPE X12 hx hZ (hw _ (List.mem_of_getElem? (i := 58) rfl)) e12 (g := (mkF m 70 #[rv r0, iv (16 : Int32), rv b6, rv b10, .unset, .unset, .unset, .unset] [(.int (16 : Int32))])) rfl (hb hby d7_70) rfl (by decide) (cap := 16) (by decide) (by decide) (by decide) (by decide) (ad := "[B") rfl
  obtain ⟨b14, g14⟩ : ∃ z, z = h10.size := ⟨_, rfl⟩
  rw [← g14] at A14 Ex14 st14
  have g_b14 : n0 ≤ b14 := Nat.le_trans (Nat.le_trans Z0 K10.1) (Nat.le_of_eq g14.symm)
  have sz_b14 : h0.size ≤ b14 := Nat.le_trans K10.1 (Nat.le_of_eq g14.symm)
  have V_b14 : Arv Z h14 b14 k14 .byte (16 : Int32) [] (.int (0 : Int32)) := (Arv.new A14 (by decide))
  have K14 : Keep h0 h14 [r0] := K10.ext E14
  have pre15 : ∀ t, Steps p.tables e below (T14.setTop (mkF m 88 #[rv r0, iv (16 : Int32), rv b6, rv b10, rv b14, .unset, .unset, .unset] [(.ref r0)])) t → Steps p.tables e below (s₁.setTop (entryFrame m #[(.ref r0)] 8)) t := by
    intro t kt
    refine pre13 _ ?_
    show Steps p.tables e below (T12.setTop (mkF m 70 #[rv r0, iv (16 : Int32), rv b6, rv b10, .unset, .unset, .unset, .unset] [(.int (16 : Int32))])) _
    refine st14 _ ?_
    show Steps p.tables e below (T14.setTop (mkF m 72 #[rv r0, iv (16 : Int32), rv b6, rv b10, .unset, .unset, .unset, .unset] [(.ref b14)])) _
    refine XS.goto X14.here hx rfl (pc0 := 72) (pc' := 85) rfl (hb hby d7_72) (by decide) (by decide) ?_
    refine XS.astore X14.here hx rfl (hb hby d7_85) rfl rfl (l' := #[rv r0, iv (16 : Int32), rv b6, rv b10, rv b14, .unset, .unset, .unset]) rfl ?_
    refine XS.aloadN X14.here hx rfl (hb hby d7_87) rfl rfl ?_
    exact kt
  obtain ⟨T16, X16, e16, st16⟩ := getF X14 hx hZ hown (host := "") (Or.inl (hw _ (List.mem_of_getElem? (i := 33) rfl))) Via.refl e14 (((F_capacity_r0.ext E6).ext E10).ext E14) (g := (mkF m 88 #[rv r0, iv (16 : Int32), rv b6, rv b10, rv b14, .unset, .unset, .unset] [(.ref r0)])) rfl rfl (hb hby d7_88)
  have pre17 : ∀ t, Steps p.tables e below (T16.setTop (mkF m 95 #[rv r0, iv (16 : Int32), rv b6, rv b10, rv b14, .unset, .unset, .unset] [(.int (1 : Int32))])) t → Steps p.tables e below (s₁.setTop (entryFrame m #[(.ref r0)] 8)) t := by
    intro t kt
    refine pre15 _ ?_
    show Steps p.tables e below (T14.setTop (mkF m 88 #[rv r0, iv (16 : Int32), rv b6, rv b10, rv b14, .unset, .unset, .unset] [(.ref r0)])) _
    refine st16 _ ?_
    show Steps p.tables e below (T16.setTop (mkF m 91 #[rv r0, iv (16 : Int32), rv b6, rv b10, rv b14, .unset, .unset, .unset] [(.int (0 : Int32))])) _
    refine XS.ifNo X16.here hx rfl (hb hby d7_91) rfl ((if0 _ _).trans (teq (by decide)).2) ?_
    refine XS.iconst X16.here hx rfl (hb hby d7_94) ?_
    exact kt
  obtain ⟨T18, h18, k18, X18, e18, E18, A18, Ex18, O18, st18⟩ := newRA X16 hx hZ hown (ty := (.object "java/lang/Object")) rfl (hw _ (List.mem_of_getElem? (i := 9) rfl)) (hw _ (List.mem_of_getElem? (i := 10) rfl)) e16 (g := (mkF m 95 #[rv r0, iv (16 : Int32), rv b6, rv b10, rv b14, .unset, .unset, .unset] [(.int (1 : Int32))])) rfl (hb hby d7_95) rfl (by decide) (cap := 1) (by decide) (by decide) (by decide) (by decide) (ad := "[[Ljava/lang/Object;") rfl
  obtain ⟨b18, g18⟩ : ∃ z, z = h14.size := ⟨_, rfl⟩
  rw [← g18] at A18 Ex18 st18
  have g_b18 : n0 ≤ b18 := Nat.le_trans (Nat.le_trans Z0 K14.1) (Nat.le_of_eq g18.symm)
  have sz_b18 : h0.size ≤ b18 := Nat.le_trans K14.1 (Nat.le_of_eq g18.symm)
  have V_b18 : Arv Z h18 b18 k18 (.array (.object "java/lang/Object")) (1 : Int32) [.null] .null := (Arv.new A18 (by decide)).pad (pad_rep [] .null 1)
  have K18 : Keep h0 h18 [r0] := K14.ext E18
  have pre19 : ∀ t, Steps p.tables e below (T18.setTop (mkF m 108 #[rv r0, iv (16 : Int32), rv b6, rv b10, rv b14, rv b18, .unset, .unset] [(.ref r0)])) t → Steps p.tables e below (s₁.setTop (entryFrame m #[(.ref r0)] 8)) t := by
    intro t kt
    refine pre17 _ ?_
    show Steps p.tables e below (T16.setTop (mkF m 95 #[rv r0, iv (16 : Int32), rv b6, rv b10, rv b14, .unset, .unset, .unset] [(.int (1 : Int32))])) _
    refine st18 _ ?_
    show Steps p.tables e below (T18.setTop (mkF m 98 #[rv r0, iv (16 : Int32), rv b6, rv b10, rv b14, .unset, .unset, .unset] [(.ref b18)])) _
    refine XS.goto X18.here hx rfl (pc0 := 98) (pc' := 105) rfl (hb hby d7_98) (by decide) (by decide) ?_
    refine XS.astore X18.here hx rfl (hb hby d7_105) rfl rfl (l' := #[rv r0, iv (16 : Int32), rv b6, rv b10, rv b14, rv b18, .unset, .unset]) rfl ?_
    refine XS.aloadN X18.here hx rfl (hb hby d7_107) rfl rfl ?_
    exact kt
  obtain ⟨T20, X20, e20, st20⟩ := getF X18 hx hZ hown (host := "") (Or.inl (hw _ (List.mem_of_getElem? (i := 33) rfl))) Via.refl e18 ((((F_capacity_r0.ext E6).ext E10).ext E14).ext E18) (g := (mkF m 108 #[rv r0, iv (16 : Int32), rv b6, rv b10, rv b14, rv b18, .unset, .unset] [(.ref r0)])) rfl rfl (hb hby d7_108)
  have pre21 : ∀ t, Steps p.tables e below (T20.setTop (mkF m 115 #[rv r0, iv (16 : Int32), rv b6, rv b10, rv b14, rv b18, .unset, .unset] [(.int (1 : Int32))])) t → Steps p.tables e below (s₁.setTop (entryFrame m #[(.ref r0)] 8)) t := by
    intro t kt
    refine pre19 _ ?_
    show Steps p.tables e below (T18.setTop (mkF m 108 #[rv r0, iv (16 : Int32), rv b6, rv b10, rv b14, rv b18, .unset, .unset] [(.ref r0)])) _
    refine st20 _ ?_
    show Steps p.tables e below (T20.setTop (mkF m 111 #[rv r0, iv (16 : Int32), rv b6, rv b10, rv b14, rv b18, .unset, .unset] [(.int (0 : Int32))])) _
    refine XS.ifNo X20.here hx rfl (hb hby d7_111) rfl ((if0 _ _).trans (teq (by decide)).2) ?_
    refine XS.iconst X20.here hx rfl (hb hby d7_114) ?_
    exact kt
  obtain ⟨T22, h22, k22, X22, e22, E22, A22, Ex22, O22, st22⟩ := newRA X20 hx hZ hown (ty := .long) rfl (hw _ (List.mem_of_getElem? (i := 13) rfl)) (hw _ (List.mem_of_getElem? (i := 14) rfl)) e20 (g := (mkF m 115 #[rv r0, iv (16 : Int32), rv b6, rv b10, rv b14, rv b18, .unset, .unset] [(.int (1 : Int32))])) rfl (hb hby d7_115) rfl (by decide) (cap := 1) (by decide) (by decide) (by decide) (by decide) (ad := "[[J") rfl
  obtain ⟨b22, g22⟩ : ∃ z, z = h18.size := ⟨_, rfl⟩
  rw [← g22] at A22 Ex22 st22
  have g_b22 : n0 ≤ b22 := Nat.le_trans (Nat.le_trans Z0 K18.1) (Nat.le_of_eq g22.symm)
  have sz_b22 : h0.size ≤ b22 := Nat.le_trans K18.1 (Nat.le_of_eq g22.symm)
  have V_b22 : Arv Z h22 b22 k22 (.array .long) (1 : Int32) [.null] .null := (Arv.new A22 (by decide)).pad (pad_rep [] .null 1)
  have K22 : Keep h0 h22 [r0] := K18.ext E22
  have pre23 : ∀ t, Steps p.tables e below (T22.setTop (mkF m 128 #[rv r0, iv (16 : Int32), rv b6, rv b10, rv b14, rv b18, rv b22, .unset] [(.ref r0)])) t → Steps p.tables e below (s₁.setTop (entryFrame m #[(.ref r0)] 8)) t := by
    intro t kt
    refine pre21 _ ?_
    show Steps p.tables e below (T20.setTop (mkF m 115 #[rv r0, iv (16 : Int32), rv b6, rv b10, rv b14, rv b18, .unset, .unset] [(.int (1 : Int32))])) _
    refine st22 _ ?_
    show Steps p.tables e below (T22.setTop (mkF m 118 #[rv r0, iv (16 : Int32), rv b6, rv b10, rv b14, rv b18, .unset, .unset] [(.ref b22)])) _
    refine XS.goto X22.here hx rfl (pc0 := 118) (pc' := 125) rfl (hb hby d7_118) (by decide) (by decide) ?_
    refine XS.astore X22.here hx rfl (hb hby d7_125) rfl rfl (l' := #[rv r0, iv (16 : Int32), rv b6, rv b10, rv b14, rv b18, rv b22, .unset]) rfl ?_
    refine XS.aloadN X22.here hx rfl (hb hby d7_127) rfl rfl ?_
    exact kt
  obtain ⟨T24, X24, e24, st24⟩ := getF X22 hx hZ hown (host := "") (Or.inl (hw _ (List.mem_of_getElem? (i := 33) rfl))) Via.refl e22 (((((F_capacity_r0.ext E6).ext E10).ext E14).ext E18).ext E22) (g := (mkF m 128 #[rv r0, iv (16 : Int32), rv b6, rv b10, rv b14, rv b18, rv b22, .unset] [(.ref r0)])) rfl rfl (hb hby d7_128)
  have pre25 : ∀ t, Steps p.tables e below (T24.setTop (mkF m 135 #[rv r0, iv (16 : Int32), rv b6, rv b10, rv b14, rv b18, rv b22, .unset] [(.int (1 : Int32))])) t → Steps p.tables e below (s₁.setTop (entryFrame m #[(.ref r0)] 8)) t := by
    intro t kt
    refine pre23 _ ?_
    show Steps p.tables e below (T22.setTop (mkF m 128 #[rv r0, iv (16 : Int32), rv b6, rv b10, rv b14, rv b18, rv b22, .unset] [(.ref r0)])) _
    refine st24 _ ?_
    show Steps p.tables e below (T24.setTop (mkF m 131 #[rv r0, iv (16 : Int32), rv b6, rv b10, rv b14, rv b18, rv b22, .unset] [(.int (0 : Int32))])) _
    refine XS.ifNo X24.here hx rfl (hb hby d7_131) rfl ((if0 _ _).trans (teq (by decide)).2) ?_
    refine XS.iconst X24.here hx rfl (hb hby d7_134) ?_
    exact kt
  obtain ⟨T26, h26, k26, X26, e26, E26, A26, Ex26, O26, st26⟩ := newRA X24 hx hZ hown (ty := .byte) rfl (hw _ (List.mem_of_getElem? (i := 17) rfl)) (hw _ (List.mem_of_getElem? (i := 18) rfl)) e24 (g := (mkF m 135 #[rv r0, iv (16 : Int32), rv b6, rv b10, rv b14, rv b18, rv b22, .unset] [(.int (1 : Int32))])) rfl (hb hby d7_135) rfl (by decide) (cap := 1) (by decide) (by decide) (by decide) (by decide) (ad := "[[B") rfl
  obtain ⟨b26, g26⟩ : ∃ z, z = h22.size := ⟨_, rfl⟩
  rw [← g26] at A26 Ex26 st26
  have g_b26 : n0 ≤ b26 := Nat.le_trans (Nat.le_trans Z0 K22.1) (Nat.le_of_eq g26.symm)
  have sz_b26 : h0.size ≤ b26 := Nat.le_trans K22.1 (Nat.le_of_eq g26.symm)
  have V_b26 : Arv Z h26 b26 k26 (.array .byte) (1 : Int32) [.null] .null := (Arv.new A26 (by decide)).pad (pad_rep [] .null 1)
  have K26 : Keep h0 h26 [r0] := K22.ext E26
  have pre27 : ∀ t, Steps p.tables e below (T26.setTop (mkF m 151 #[rv r0, iv (16 : Int32), rv b6, rv b10, rv b14, rv b18, rv b22, rv b26] [(.ref b6), (.int (0 : Int32)), (.ref b18)])) t → Steps p.tables e below (s₁.setTop (entryFrame m #[(.ref r0)] 8)) t := by
    intro t kt
    refine pre25 _ ?_
    show Steps p.tables e below (T24.setTop (mkF m 135 #[rv r0, iv (16 : Int32), rv b6, rv b10, rv b14, rv b18, rv b22, .unset] [(.int (1 : Int32))])) _
    refine st26 _ ?_
    show Steps p.tables e below (T26.setTop (mkF m 138 #[rv r0, iv (16 : Int32), rv b6, rv b10, rv b14, rv b18, rv b22, .unset] [(.ref b26)])) _
    refine XS.goto X26.here hx rfl (pc0 := 138) (pc' := 145) rfl (hb hby d7_138) (by decide) (by decide) ?_
    refine XS.astore X26.here hx rfl (hb hby d7_145) rfl rfl (l' := #[rv r0, iv (16 : Int32), rv b6, rv b10, rv b14, rv b18, rv b22, rv b26]) rfl ?_
    refine XS.aload X26.here hx rfl (hb hby d7_147) rfl rfl ?_
    refine XS.iconst X26.here hx rfl (hb hby d7_149) ?_
    refine XS.aloadN X26.here hx rfl (hb hby d7_150) rfl rfl ?_
    exact kt
  obtain ⟨cl28, Ar28, q28, S28, M28, H28, G28⟩ := id ((V_b18.ext E22).ext E26)
  have hin28 : ¬ ((0 : Int32) < 0 ∨ cl28.slots.size ≤ ((0 : Int32)).toNatClampNeg) := inb_of S28 ⟨by decide, by decide⟩
  obtain ⟨T28, h28, X28, e28, W28, st28⟩ := stR X26 hx hZ e26 Ar28 (j := (0 : Int32)) hin28 rfl (Sto.ofVA Ar28 q28 O18 (Ins.self (((((Ex6.ext E10).ext E14).ext E18).ext E22).ext E26))) (g := (mkF m 151 #[rv r0, iv (16 : Int32), rv b6, rv b10, rv b14, rv b18, rv b22, rv b26] [(.ref b6), (.int (0 : Int32)), (.ref b18)])) rfl rfl (hb hby d7_151)
  have V28 : Arv Z h28 b18 k18 (.array (.object "java/lang/Object")) (1 : Int32) [(.ref b6)] .null := Arv.set Ar28 q28 S28 M28 H28 G28 rfl W28 0 rfl (Nat.le_of_ble_eq_true rfl)
  have K28 : Keep h0 h28 [r0] := K26.wr W28 (Or.inr sz_b18)
  have N28 := Fr.snoc X28 N2 g_b18
  have pre29 : ∀ t, Steps p.tables e below (T28.setTop (mkF m 156 #[rv r0, iv (16 : Int32), rv b6, rv b10, rv b14, rv b18, rv b22, rv b26] [(.ref b10), (.int (0 : Int32)), (.ref b22)])) t → Steps p.tables e below (s₁.setTop (entryFrame m #[(.ref r0)] 8)) t := by
    intro t kt
    refine pre27 _ ?_
    show Steps p.tables e below (T26.setTop (mkF m 151 #[rv r0, iv (16 : Int32), rv b6, rv b10, rv b14, rv b18, rv b22, rv b26] [(.ref b6), (.int (0 : Int32)), (.ref b18)])) _
    refine st28 _ ?_
    show Steps p.tables e below (T28.setTop (mkF m 152 #[rv r0, iv (16 : Int32), rv b6, rv b10, rv b14, rv b18, rv b22, rv b26] [])) _
    refine XS.aload X28.here hx rfl (hb hby d7_152) rfl rfl ?_
    refine XS.iconst X28.here hx rfl (hb hby d7_154) ?_
    refine XS.aloadN X28.here hx rfl (hb hby d7_155) rfl rfl ?_
    exact kt
  obtain ⟨cl30, Ar30, q30, S30, M30, H30, G30⟩ := id ((V_b22.ext E26).other W28 (Exa.ne ((Ex22.ext E26).wr W28) (((Ex18.ext E22).ext E26).wr W28) (by decide)))
  have hin30 : ¬ ((0 : Int32) < 0 ∨ cl30.slots.size ≤ ((0 : Int32)).toNatClampNeg) := inb_of S30 ⟨by decide, by decide⟩
  obtain ⟨T30, h30, X30, e30, W30, st30⟩ := stR X28 hx hZ e28 Ar30 (j := (0 : Int32)) hin30 rfl (Sto.ofVA Ar30 q30 O22 (Ins.self (((((Ex10.ext E14).ext E18).ext E22).ext E26).wr W28))) (g := (mkF m 156 #[rv r0, iv (16 : Int32), rv b6, rv b10, rv b14, rv b18, rv b22, rv b26] [(.ref b10), (.int (0 : Int32)), (.ref b22)])) rfl rfl (hb hby d7_156)
  have V30 : Arv Z h30 b22 k22 (.array .long) (1 : Int32) [(.ref b10)] .null := Arv.set Ar30 q30 S30 M30 H30 G30 rfl W30 0 rfl (Nat.le_of_ble_eq_true rfl)
  have K30 : Keep h0 h30 [r0] := K28.wr W30 (Or.inr sz_b22)
  have N30 := Fr.snoc X30 N28 g_b22
  have pre31 : ∀ t, Steps p.tables e below (T30.setTop (mkF m 162 #[rv r0, iv (16 : Int32), rv b6, rv b10, rv b14, rv b18, rv b22, rv b26] [(.ref b14), (.int (0 : Int32)), (.ref b26)])) t → Steps p.tables e below (s₁.setTop (entryFrame m #[(.ref r0)] 8)) t := by
    intro t kt
    refine pre29 _ ?_
    show Steps p.tables e below (T28.setTop (mkF m 156 #[rv r0, iv (16 : Int32), rv b6, rv b10, rv b14, rv b18, rv b22, rv b26] [(.ref b10), (.int (0 : Int32)), (.ref b22)])) _
    refine st30 _ ?_
    show Steps p.tables e below (T30.setTop (mkF m 157 #[rv r0, iv (16 : Int32), rv b6, rv b10, rv b14, rv b18, rv b22, rv b26] [])) _
    refine XS.aload X30.here hx rfl (hb hby d7_157) rfl rfl ?_
    refine XS.iconst X30.here hx rfl (hb hby d7_159) ?_
    refine XS.aload X30.here hx rfl (hb hby d7_160) rfl rfl ?_
    exact kt
  obtain ⟨cl32, Ar32, q32, S32, M32, H32, G32⟩ := id ((V_b26.other W28 (Exa.ne ((Ex26.wr W28).wr W30) ((((Ex18.ext E22).ext E26).wr W28).wr W30) (by decide))).other W30 (Exa.ne ((Ex26.wr W28).wr W30) (((Ex22.ext E26).wr W28).wr W30) (by decide)))
  have hin32 : ¬ ((0 : Int32) < 0 ∨ cl32.slots.size ≤ ((0 : Int32)).toNatClampNeg) := inb_of S32 ⟨by decide, by decide⟩
  obtain ⟨T32, h32, X32, e32, W32, st32⟩ := stR X30 hx hZ e30 Ar32 (j := (0 : Int32)) hin32 rfl (Sto.ofVA Ar32 q32 O26 (Ins.self (((((Ex14.ext E18).ext E22).ext E26).wr W28).wr W30))) (g := (mkF m 162 #[rv r0, iv (16 : Int32), rv b6, rv b10, rv b14, rv b18, rv b22, rv b26] [(.ref b14), (.int (0 : Int32)), (.ref b26)])) rfl rfl (hb hby d7_162)
  have V32 : Arv Z h32 b26 k26 (.array .byte) (1 : Int32) [(.ref b14)] .null := Arv.set Ar32 q32 S32 M32 H32 G32 rfl W32 0 rfl (Nat.le_of_ble_eq_true rfl)
  have K32 : Keep h0 h32 [r0] := K30.wr W32 (Or.inr sz_b26)
  have N32 := Fr.snoc X32 N30 g_b26
  have pre33 : ∀ t, Steps p.tables e below (T32.setTop (mkF m 166 #[rv r0, iv (16 : Int32), rv b6, rv b10, rv b14, rv b18, rv b22, rv b26] [(.ref b18), (.ref r0)])) t → Steps p.tables e below (s₁.setTop (entryFrame m #[(.ref r0)] 8)) t := by
    intro t kt
    refine pre31 _ ?_
    show Steps p.tables e below (T30.setTop (mkF m 162 #[rv r0, iv (16 : Int32), rv b6, rv b10, rv b14, rv b18, rv b22, rv b26] [(.ref b14), (.int (0 : Int32)), (.ref b26)])) _
    refine st32 _ ?_
    show Steps p.tables e below (T32.setTop (mkF m 163 #[rv r0, iv (16 : Int32), rv b6, rv b10, rv b14, rv b18, rv b22, rv b26] [])) _
    refine XS.aloadN X32.here hx rfl (hb hby d7_163) rfl rfl ?_
    refine XS.aload X32.here hx rfl (hb hby d7_164) rfl rfl ?_
    exact kt
  obtain ⟨T34, h34, X34, e34, W34, st34⟩ := putF X32 hx hZ hown (host := "") (Or.inl (hw _ (List.mem_of_getElem? (i := 11) rfl))) Via.refl e32 (((((((((F_items_r0.ext E6).ext E10).ext E14).ext E18).ext E22).ext E26).other W28 (Or.inl (Exa.ne (((((((((E_r0.ext E6).ext E10).ext E14).ext E18).ext E22).ext E26).wr W28).wr W30).wr W32) (((((Ex18.ext E22).ext E26).wr W28).wr W30).wr W32) (by decide)))).other W30 (Or.inl (Exa.ne (((((((((E_r0.ext E6).ext E10).ext E14).ext E18).ext E22).ext E26).wr W28).wr W30).wr W32) ((((Ex22.ext E26).wr W28).wr W30).wr W32) (by decide)))).other W32 (Or.inl (Exa.ne (((((((((E_r0.ext E6).ext E10).ext E14).ext E18).ext E22).ext E26).wr W28).wr W30).wr W32) (((Ex26.wr W28).wr W30).wr W32) (by decide)))) (((((((((E_r0.ext E6).ext E10).ext E14).ext E18).ext E22).ext E26).wr W28).wr W30).wr W32) (Or.inl (hw _ (List.mem_of_getElem? (i := 12) rfl))) (hw _ (List.mem_of_getElem? (i := 1) rfl)) (ty := (.array (.array (.object "java/lang/Object")))) (by decide) rfl rfl (g := (mkF m 166 #[rv r0, iv (16 : Int32), rv b6, rv b10, rv b14, rv b18, rv b22, rv b26] [(.ref b18), (.ref r0)])) rfl rfl (hb hby d7_166)
  have Fw34 : Fld Z h34 r0 "com/example/loopsmith/loopsmith/queue/Slots" "items" "[[Ljava/lang/Object;" (.ref b18) := (((((((((F_items_r0.ext E6).ext E10).ext E14).ext E18).ext E22).ext E26).other W28 (Or.inl (Exa.ne (((((((((E_r0.ext E6).ext E10).ext E14).ext E18).ext E22).ext E26).wr W28).wr W30).wr W32) (((((Ex18.ext E22).ext E26).wr W28).wr W30).wr W32) (by decide)))).other W30 (Or.inl (Exa.ne (((((((((E_r0.ext E6).ext E10).ext E14).ext E18).ext E22).ext E26).wr W28).wr W30).wr W32) ((((Ex22.ext E26).wr W28).wr W30).wr W32) (by decide)))).other W32 (Or.inl (Exa.ne (((((((((E_r0.ext E6).ext E10).ext E14).ext E18).ext E22).ext E26).wr W28).wr W30).wr W32) (((Ex26.wr W28).wr W30).wr W32) (by decide)))).same W34
  have K34 : Keep h0 h34 [r0] := K32.wr W34 (Or.inl (List.mem_of_getElem? (i := 0) rfl))
  have N34 := Fr.snoc X34 N32 g_r0
  have pre35 : ∀ t, Steps p.tables e below (T34.setTop (mkF m 172 #[rv r0, iv (16 : Int32), rv b6, rv b10, rv b14, rv b18, rv b22, rv b26] [(.ref b22), (.ref r0)])) t → Steps p.tables e below (s₁.setTop (entryFrame m #[(.ref r0)] 8)) t := by
    intro t kt
    refine pre33 _ ?_
    show Steps p.tables e below (T32.setTop (mkF m 166 #[rv r0, iv (16 : Int32), rv b6, rv b10, rv b14, rv b18, rv b22, rv b26] [(.ref b18), (.ref r0)])) _
    refine st34 _ ?_
    show Steps p.tables e below (T34.setTop (mkF m 169 #[rv r0, iv (16 : Int32), rv b6, rv b10, rv b14, rv b18, rv b22, rv b26] [])) _
    refine XS.aloadN X34.here hx rfl (hb hby d7_169) rfl rfl ?_
    refine XS.aload X34.here hx rfl (hb hby d7_170) rfl rfl ?_
    exact kt
  obtain ⟨T36, h36, X36, e36, W36, st36⟩ := putF X34 hx hZ hown (host := "") (Or.inl (hw _ (List.mem_of_getElem? (i := 15) rfl))) Via.refl e34 ((((((((((F_times_r0.ext E6).ext E10).ext E14).ext E18).ext E22).ext E26).other W28 (Or.inl (Exa.ne ((((((((((E_r0.ext E6).ext E10).ext E14).ext E18).ext E22).ext E26).wr W28).wr W30).wr W32).wr W34) ((((((Ex18.ext E22).ext E26).wr W28).wr W30).wr W32).wr W34) (by decide)))).other W30 (Or.inl (Exa.ne ((((((((((E_r0.ext E6).ext E10).ext E14).ext E18).ext E22).ext E26).wr W28).wr W30).wr W32).wr W34) (((((Ex22.ext E26).wr W28).wr W30).wr W32).wr W34) (by decide)))).other W32 (Or.inl (Exa.ne ((((((((((E_r0.ext E6).ext E10).ext E14).ext E18).ext E22).ext E26).wr W28).wr W30).wr W32).wr W34) ((((Ex26.wr W28).wr W30).wr W32).wr W34) (by decide)))).other W34 (Or.inr (slot_ne (Or.inl (hw _ (List.mem_of_getElem? (i := 16) rfl))) (Or.inl (hw _ (List.mem_of_getElem? (i := 12) rfl))) (by decide) (t := (.array (.array .long))) (t' := (.array (.array (.object "java/lang/Object")))) (by decide) (by decide)))) ((((((((((E_r0.ext E6).ext E10).ext E14).ext E18).ext E22).ext E26).wr W28).wr W30).wr W32).wr W34) (Or.inl (hw _ (List.mem_of_getElem? (i := 16) rfl))) (hw _ (List.mem_of_getElem? (i := 1) rfl)) (ty := (.array (.array .long))) (by decide) rfl rfl (g := (mkF m 172 #[rv r0, iv (16 : Int32), rv b6, rv b10, rv b14, rv b18, rv b22, rv b26] [(.ref b22), (.ref r0)])) rfl rfl (hb hby d7_172)
  have Fw36 : Fld Z h36 r0 "com/example/loopsmith/loopsmith/queue/Slots" "times" "[[J" (.ref b22) := ((((((((((F_times_r0.ext E6).ext E10).ext E14).ext E18).ext E22).ext E26).other W28 (Or.inl (Exa.ne ((((((((((E_r0.ext E6).ext E10).ext E14).ext E18).ext E22).ext E26).wr W28).wr W30).wr W32).wr W34) ((((((Ex18.ext E22).ext E26).wr W28).wr W30).wr W32).wr W34) (by decide)))).other W30 (Or.inl (Exa.ne ((((((((((E_r0.ext E6).ext E10).ext E14).ext E18).ext E22).ext E26).wr W28).wr W30).wr W32).wr W34) (((((Ex22.ext E26).wr W28).wr W30).wr W32).wr W34) (by decide)))).other W32 (Or.inl (Exa.ne ((((((((((E_r0.ext E6).ext E10).ext E14).ext E18).ext E22).ext E26).wr W28).wr W30).wr W32).wr W34) ((((Ex26.wr W28).wr W30).wr W32).wr W34) (by decide)))).other W34 (Or.inr (slot_ne (Or.inl (hw _ (List.mem_of_getElem? (i := 16) rfl))) (Or.inl (hw _ (List.mem_of_getElem? (i := 12) rfl))) (by decide) (t := (.array (.array .long))) (t' := (.array (.array (.object "java/lang/Object")))) (by decide) (by decide)))).same W36
  have K36 : Keep h0 h36 [r0] := K34.wr W36 (Or.inl (List.mem_of_getElem? (i := 0) rfl))
  have N36 := Fr.snoc X36 N34 g_r0
  have pre37 : ∀ t, Steps p.tables e below (T36.setTop (mkF m 178 #[rv r0, iv (16 : Int32), rv b6, rv b10, rv b14, rv b18, rv b22, rv b26] [(.ref b26), (.ref r0)])) t → Steps p.tables e below (s₁.setTop (entryFrame m #[(.ref r0)] 8)) t := by
    intro t kt
    refine pre35 _ ?_
    show Steps p.tables e below (T34.setTop (mkF m 172 #[rv r0, iv (16 : Int32), rv b6, rv b10, rv b14, rv b18, rv b22, rv b26] [(.ref b22), (.ref r0)])) _
    refine st36 _ ?_
    show Steps p.tables e below (T36.setTop (mkF m 175 #[rv r0, iv (16 : Int32), rv b6, rv b10, rv b14, rv b18, rv b22, rv b26] [])) _
    refine XS.aloadN X36.here hx rfl (hb hby d7_175) rfl rfl ?_
    refine XS.aload X36.here hx rfl (hb hby d7_176) rfl rfl ?_
    exact kt
  obtain ⟨T38, h38, X38, e38, W38, st38⟩ := putF X36 hx hZ hown (host := "") (Or.inl (hw _ (List.mem_of_getElem? (i := 19) rfl))) Via.refl e36 (((((((((((F_flags_r0.ext E6).ext E10).ext E14).ext E18).ext E22).ext E26).other W28 (Or.inl (Exa.ne (((((((((((E_r0.ext E6).ext E10).ext E14).ext E18).ext E22).ext E26).wr W28).wr W30).wr W32).wr W34).wr W36) (((((((Ex18.ext E22).ext E26).wr W28).wr W30).wr W32).wr W34).wr W36) (by decide)))).other W30 (Or.inl (Exa.ne (((((((((((E_r0.ext E6).ext E10).ext E14).ext E18).ext E22).ext E26).wr W28).wr W30).wr W32).wr W34).wr W36) ((((((Ex22.ext E26).wr W28).wr W30).wr W32).wr W34).wr W36) (by decide)))).other W32 (Or.inl (Exa.ne (((((((((((E_r0.ext E6).ext E10).ext E14).ext E18).ext E22).ext E26).wr W28).wr W30).wr W32).wr W34).wr W36) (((((Ex26.wr W28).wr W30).wr W32).wr W34).wr W36) (by decide)))).other W34 (Or.inr (slot_ne (Or.inl (hw _ (List.mem_of_getElem? (i := 20) rfl))) (Or.inl (hw _ (List.mem_of_getElem? (i := 12) rfl))) (by decide) (t := (.array (.array .byte))) (t' := (.array (.array (.object "java/lang/Object")))) (by decide) (by decide)))).other W36 (Or.inr (slot_ne (Or.inl (hw _ (List.mem_of_getElem? (i := 20) rfl))) (Or.inl (hw _ (List.mem_of_getElem? (i := 16) rfl))) (by decide) (t := (.array (.array .byte))) (t' := (.array (.array .long))) (by decide) (by decide)))) (((((((((((E_r0.ext E6).ext E10).ext E14).ext E18).ext E22).ext E26).wr W28).wr W30).wr W32).wr W34).wr W36) (Or.inl (hw _ (List.mem_of_getElem? (i := 20) rfl))) (hw _ (List.mem_of_getElem? (i := 1) rfl)) (ty := (.array (.array .byte))) (by decide) rfl rfl (g := (mkF m 178 #[rv r0, iv (16 : Int32), rv b6, rv b10, rv b14, rv b18, rv b22, rv b26] [(.ref b26), (.ref r0)])) rfl rfl (hb hby d7_178)
  have Fw38 : Fld Z h38 r0 "com/example/loopsmith/loopsmith/queue/Slots" "flags" "[[B" (.ref b26) := (((((((((((F_flags_r0.ext E6).ext E10).ext E14).ext E18).ext E22).ext E26).other W28 (Or.inl (Exa.ne (((((((((((E_r0.ext E6).ext E10).ext E14).ext E18).ext E22).ext E26).wr W28).wr W30).wr W32).wr W34).wr W36) (((((((Ex18.ext E22).ext E26).wr W28).wr W30).wr W32).wr W34).wr W36) (by decide)))).other W30 (Or.inl (Exa.ne (((((((((((E_r0.ext E6).ext E10).ext E14).ext E18).ext E22).ext E26).wr W28).wr W30).wr W32).wr W34).wr W36) ((((((Ex22.ext E26).wr W28).wr W30).wr W32).wr W34).wr W36) (by decide)))).other W32 (Or.inl (Exa.ne (((((((((((E_r0.ext E6).ext E10).ext E14).ext E18).ext E22).ext E26).wr W28).wr W30).wr W32).wr W34).wr W36) (((((Ex26.wr W28).wr W30).wr W32).wr W34).wr W36) (by decide)))).other W34 (Or.inr (slot_ne (Or.inl (hw _ (List.mem_of_getElem? (i := 20) rfl))) (Or.inl (hw _ (List.mem_of_getElem? (i := 12) rfl))) (by decide) (t := (.array (.array .byte))) (t' := (.array (.array (.object "java/lang/Object")))) (by decide) (by decide)))).other W36 (Or.inr (slot_ne (Or.inl (hw _ (List.mem_of_getElem? (i := 20) rfl))) (Or.inl (hw _ (List.mem_of_getElem? (i := 16) rfl))) (by decide) (t := (.array (.array .byte))) (t' := (.array (.array .long))) (by decide) (by decide)))).same W38
  have K38 : Keep h0 h38 [r0] := K36.wr W38 (Or.inl (List.mem_of_getElem? (i := 0) rfl))
  have N38 := Fr.snoc X38 N36 g_r0
  have pre39 : ∀ t, Steps p.tables e below (T38.setTop (mkF m 183 #[rv r0, iv (16 : Int32), rv b6, rv b10, rv b14, rv b18, rv b22, rv b26] [(.int (1 : Int32)), (.ref r0)])) t → Steps p.tables e below (s₁.setTop (entryFrame m #[(.ref r0)] 8)) t := by
    intro t kt
    refine pre37 _ ?_
    show Steps p.tables e below (T36.setTop (mkF m 178 #[rv r0, iv (16 : Int32), rv b6, rv b10, rv b14, rv b18, rv b22, rv b26] [(.ref b26), (.ref r0)])) _
    refine st38 _ ?_
    show Steps p.tables e below (T38.setTop (mkF m 181 #[rv r0, iv (16 : Int32), rv b6, rv b10, rv b14, rv b18, rv b22, rv b26] [])) _
    refine XS.aloadN X38.here hx rfl (hb hby d7_181) rfl rfl ?_
    refine XS.iconst X38.here hx rfl (hb hby d7_182) ?_
    exact kt
  obtain ⟨T40, h40, X40, e40, W40, st40⟩ := putF X38 hx hZ hown (host := "") (Or.inl (hw _ (List.mem_of_getElem? (i := 62) rfl))) Via.refl e38 ((((((((((((F_blocks_r0.ext E6).ext E10).ext E14).ext E18).ext E22).ext E26).other W28 (Or.inl (Exa.ne ((((((((((((E_r0.ext E6).ext E10).ext E14).ext E18).ext E22).ext E26).wr W28).wr W30).wr W32).wr W34).wr W36).wr W38) ((((((((Ex18.ext E22).ext E26).wr W28).wr W30).wr W32).wr W34).wr W36).wr W38) (by decide)))).other W30 (Or.inl (Exa.ne ((((((((((((E_r0.ext E6).ext E10).ext E14).ext E18).ext E22).ext E26).wr W28).wr W30).wr W32).wr W34).wr W36).wr W38) (((((((Ex22.ext E26).wr W28).wr W30).wr W32).wr W34).wr W36).wr W38) (by decide)))).other W32 (Or.inl (Exa.ne ((((((((((((E_r0.ext E6).ext E10).ext E14).ext E18).ext E22).ext E26).wr W28).wr W30).wr W32).wr W34).wr W36).wr W38) ((((((Ex26.wr W28).wr W30).wr W32).wr W34).wr W36).wr W38) (by decide)))).other W34 (Or.inr (slot_ne (Or.inl (hw _ (List.mem_of_getElem? (i := 63) rfl))) (Or.inl (hw _ (List.mem_of_getElem? (i := 12) rfl))) (by decide) (t := .int) (t' := (.array (.array (.object "java/lang/Object")))) (by decide) (by decide)))).other W36 (Or.inr (slot_ne (Or.inl (hw _ (List.mem_of_getElem? (i := 63) rfl))) (Or.inl (hw _ (List.mem_of_getElem? (i := 16) rfl))) (by decide) (t := .int) (t' := (.array (.array .long))) (by decide) (by decide)))).other W38 (Or.inr (slot_ne (Or.inl (hw _ (List.mem_of_getElem? (i := 63) rfl))) (Or.inl (hw _ (List.mem_of_getElem? (i := 20) rfl))) (by decide) (t := .int) (t' := (.array (.array .byte))) (by decide) (by decide)))) ((((((((((((E_r0.ext E6).ext E10).ext E14).ext E18).ext E22).ext E26).wr W28).wr W30).wr W32).wr W34).wr W36).wr W38) (Or.inl (hw _ (List.mem_of_getElem? (i := 63) rfl))) (hw _ (List.mem_of_getElem? (i := 1) rfl)) (ty := .int) (by decide) rfl rfl (g := (mkF m 183 #[rv r0, iv (16 : Int32), rv b6, rv b10, rv b14, rv b18, rv b22, rv b26] [(.int (1 : Int32)), (.ref r0)])) rfl rfl (hb hby d7_183)
  have Fw40 : Fld Z h40 r0 "com/example/loopsmith/loopsmith/queue/Slots" "blocks" "I" (.int (1 : Int32)) := ((((((((((((F_blocks_r0.ext E6).ext E10).ext E14).ext E18).ext E22).ext E26).other W28 (Or.inl (Exa.ne ((((((((((((E_r0.ext E6).ext E10).ext E14).ext E18).ext E22).ext E26).wr W28).wr W30).wr W32).wr W34).wr W36).wr W38) ((((((((Ex18.ext E22).ext E26).wr W28).wr W30).wr W32).wr W34).wr W36).wr W38) (by decide)))).other W30 (Or.inl (Exa.ne ((((((((((((E_r0.ext E6).ext E10).ext E14).ext E18).ext E22).ext E26).wr W28).wr W30).wr W32).wr W34).wr W36).wr W38) (((((((Ex22.ext E26).wr W28).wr W30).wr W32).wr W34).wr W36).wr W38) (by decide)))).other W32 (Or.inl (Exa.ne ((((((((((((E_r0.ext E6).ext E10).ext E14).ext E18).ext E22).ext E26).wr W28).wr W30).wr W32).wr W34).wr W36).wr W38) ((((((Ex26.wr W28).wr W30).wr W32).wr W34).wr W36).wr W38) (by decide)))).other W34 (Or.inr (slot_ne (Or.inl (hw _ (List.mem_of_getElem? (i := 63) rfl))) (Or.inl (hw _ (List.mem_of_getElem? (i := 12) rfl))) (by decide) (t := .int) (t' := (.array (.array (.object "java/lang/Object")))) (by decide) (by decide)))).other W36 (Or.inr (slot_ne (Or.inl (hw _ (List.mem_of_getElem? (i := 63) rfl))) (Or.inl (hw _ (List.mem_of_getElem? (i := 16) rfl))) (by decide) (t := .int) (t' := (.array (.array .long))) (by decide) (by decide)))).other W38 (Or.inr (slot_ne (Or.inl (hw _ (List.mem_of_getElem? (i := 63) rfl))) (Or.inl (hw _ (List.mem_of_getElem? (i := 20) rfl))) (by decide) (t := .int) (t' := (.array (.array .byte))) (by decide) (by decide)))).same W40
  have K40 : Keep h0 h40 [r0] := K38.wr W40 (Or.inl (List.mem_of_getElem? (i := 0) rfl))
  have N40 := Fr.snoc X40 N38 g_r0
  have pre41 : ∀ t, Steps p.tables e below (T40.setTop (mkF m 188 #[rv r0, iv (16 : Int32), rv b6, rv b10, rv b14, rv b18, rv b22, rv b26] [(.int (16 : Int32)), (.ref r0)])) t → Steps p.tables e below (s₁.setTop (entryFrame m #[(.ref r0)] 8)) t := by
    intro t kt
    refine pre39 _ ?_
    show Steps p.tables e below (T38.setTop (mkF m 183 #[rv r0, iv (16 : Int32), rv b6, rv b10, rv b14, rv b18, rv b22, rv b26] [(.int (1 : Int32)), (.ref r0)])) _
    refine st40 _ ?_
    show Steps p.tables e below (T40.setTop (mkF m 186 #[rv r0, iv (16 : Int32), rv b6, rv b10, rv b14, rv b18, rv b22, rv b26] [])) _
    refine XS.aloadN X40.here hx rfl (hb hby d7_186) rfl rfl ?_
    refine XS.iloadN X40.here hx rfl (hb hby d7_187) rfl ?_
    exact kt
  obtain ⟨T42, h42, X42, e42, W42, st42⟩ := putF X40 hx hZ hown (host := "") (Or.inl (hw _ (List.mem_of_getElem? (i := 33) rfl))) Via.refl e40 (((((((((((((F_capacity_r0.ext E6).ext E10).ext E14).ext E18).ext E22).ext E26).other W28 (Or.inl (Exa.ne (((((((((((((E_r0.ext E6).ext E10).ext E14).ext E18).ext E22).ext E26).wr W28).wr W30).wr W32).wr W34).wr W36).wr W38).wr W40) (((((((((Ex18.ext E22).ext E26).wr W28).wr W30).wr W32).wr W34).wr W36).wr W38).wr W40) (by decide)))).other W30 (Or.inl (Exa.ne (((((((((((((E_r0.ext E6).ext E10).ext E14).ext E18).ext E22).ext E26).wr W28).wr W30).wr W32).wr W34).wr W36).wr W38).wr W40) ((((((((Ex22.ext E26).wr W28).wr W30).wr W32).wr W34).wr W36).wr W38).wr W40) (by decide)))).other W32 (Or.inl (Exa.ne (((((((((((((E_r0.ext E6).ext E10).ext E14).ext E18).ext E22).ext E26).wr W28).wr W30).wr W32).wr W34).wr W36).wr W38).wr W40) (((((((Ex26.wr W28).wr W30).wr W32).wr W34).wr W36).wr W38).wr W40) (by decide)))).other W34 (Or.inr (slot_ne (Or.inl (hw _ (List.mem_of_getElem? (i := 34) rfl))) (Or.inl (hw _ (List.mem_of_getElem? (i := 12) rfl))) (by decide) (t := .int) (t' := (.array (.array (.object "java/lang/Object")))) (by decide) (by decide)))).other W36 (Or.inr (slot_ne (Or.inl (hw _ (List.mem_of_getElem? (i := 34) rfl))) (Or.inl (hw _ (List.mem_of_getElem? (i := 16) rfl))) (by decide) (t := .int) (t' := (.array (.array .long))) (by decide) (by decide)))).other W38 (Or.inr (slot_ne (Or.inl (hw _ (List.mem_of_getElem? (i := 34) rfl))) (Or.inl (hw _ (List.mem_of_getElem? (i := 20) rfl))) (by decide) (t := .int) (t' := (.array (.array .byte))) (by decide) (by decide)))).other W40 (Or.inr (slot_ne (Or.inl (hw _ (List.mem_of_getElem? (i := 34) rfl))) (Or.inl (hw _ (List.mem_of_getElem? (i := 63) rfl))) (by decide) (t := .int) (t' := .int) (by decide) (by decide)))) (((((((((((((E_r0.ext E6).ext E10).ext E14).ext E18).ext E22).ext E26).wr W28).wr W30).wr W32).wr W34).wr W36).wr W38).wr W40) (Or.inl (hw _ (List.mem_of_getElem? (i := 34) rfl))) (hw _ (List.mem_of_getElem? (i := 1) rfl)) (ty := .int) (by decide) rfl rfl (g := (mkF m 188 #[rv r0, iv (16 : Int32), rv b6, rv b10, rv b14, rv b18, rv b22, rv b26] [(.int (16 : Int32)), (.ref r0)])) rfl rfl (hb hby d7_188)
  have Fw42 : Fld Z h42 r0 "com/example/loopsmith/loopsmith/queue/Slots" "capacity" "I" (.int (16 : Int32)) := (((((((((((((F_capacity_r0.ext E6).ext E10).ext E14).ext E18).ext E22).ext E26).other W28 (Or.inl (Exa.ne (((((((((((((E_r0.ext E6).ext E10).ext E14).ext E18).ext E22).ext E26).wr W28).wr W30).wr W32).wr W34).wr W36).wr W38).wr W40) (((((((((Ex18.ext E22).ext E26).wr W28).wr W30).wr W32).wr W34).wr W36).wr W38).wr W40) (by decide)))).other W30 (Or.inl (Exa.ne (((((((((((((E_r0.ext E6).ext E10).ext E14).ext E18).ext E22).ext E26).wr W28).wr W30).wr W32).wr W34).wr W36).wr W38).wr W40) ((((((((Ex22.ext E26).wr W28).wr W30).wr W32).wr W34).wr W36).wr W38).wr W40) (by decide)))).other W32 (Or.inl (Exa.ne (((((((((((((E_r0.ext E6).ext E10).ext E14).ext E18).ext E22).ext E26).wr W28).wr W30).wr W32).wr W34).wr W36).wr W38).wr W40) (((((((Ex26.wr W28).wr W30).wr W32).wr W34).wr W36).wr W38).wr W40) (by decide)))).other W34 (Or.inr (slot_ne (Or.inl (hw _ (List.mem_of_getElem? (i := 34) rfl))) (Or.inl (hw _ (List.mem_of_getElem? (i := 12) rfl))) (by decide) (t := .int) (t' := (.array (.array (.object "java/lang/Object")))) (by decide) (by decide)))).other W36 (Or.inr (slot_ne (Or.inl (hw _ (List.mem_of_getElem? (i := 34) rfl))) (Or.inl (hw _ (List.mem_of_getElem? (i := 16) rfl))) (by decide) (t := .int) (t' := (.array (.array .long))) (by decide) (by decide)))).other W38 (Or.inr (slot_ne (Or.inl (hw _ (List.mem_of_getElem? (i := 34) rfl))) (Or.inl (hw _ (List.mem_of_getElem? (i := 20) rfl))) (by decide) (t := .int) (t' := (.array (.array .byte))) (by decide) (by decide)))).other W40 (Or.inr (slot_ne (Or.inl (hw _ (List.mem_of_getElem? (i := 34) rfl))) (Or.inl (hw _ (List.mem_of_getElem? (i := 63) rfl))) (by decide) (t := .int) (t' := .int) (by decide) (by decide)))).same W42
  have K42 : Keep h0 h42 [r0] := K40.wr W42 (Or.inl (List.mem_of_getElem? (i := 0) rfl))
  have N42 := Fr.snoc X42 N40 g_r0
  have pre43 : ∀ t, Steps p.tables e below (T42.setTop (mkF m 191 #[rv r0, iv (16 : Int32), rv b6, rv b10, rv b14, rv b18, rv b22, rv b26] [])) t → Steps p.tables e below (s₁.setTop (entryFrame m #[(.ref r0)] 8)) t := by
    intro t kt
    refine pre41 _ ?_
    show Steps p.tables e below (T40.setTop (mkF m 188 #[rv r0, iv (16 : Int32), rv b6, rv b10, rv b14, rv b18, rv b22, rv b26] [(.int (16 : Int32)), (.ref r0)])) _
    refine st42 _ ?_
    exact kt
  obtain ⟨fs, hr, hrun, hended, hW, hsame⟩ := X42.leave (v := none) (fun _ => rfl)
  refine ⟨_, _, pre43 _ ?_, hrun, hended, _, _, rfl, ?_, ⟨_, rfl⟩, hW, hsame.mono (by decide) (by decide)⟩
  · show Steps p.tables e below (T42.setTop (mkF m 191 #[rv r0, iv (16 : Int32), rv b6, rv b10, rv b14, rv b18, rv b22, rv b26] [])) _
    exact X42.returnOut hx Bd.returns (hb hby d7_191) hr
  · show Q7c0 Z r0 i0 t0 f0 w0 h0 n0 _ T42.heap _
    rw [e42]
    exact ⟨b18, b22, b26, b6, b10, b14, k18, k22, k26, k6, k10, k14, rfl, N42, K42, ⟨g_b18, g_b22, g_b26, g_b6, g_b10, g_b14⟩, ⟨((((Fw34.other W36 (Or.inr (slot_ne (Or.inl (hw _ (List.mem_of_getElem? (i := 12) rfl))) (Or.inl (hw _ (List.mem_of_getElem? (i := 16) rfl))) (by decide) (t := (.array (.array (.object "java/lang/Object")))) (t' := (.array (.array .long))) (by decide) (by decide)))).other W38 (Or.inr (slot_ne (Or.inl (hw _ (List.mem_of_getElem? (i := 12) rfl))) (Or.inl (hw _ (List.mem_of_getElem? (i := 20) rfl))) (by decide) (t := (.array (.array (.object "java/lang/Object")))) (t' := (.array (.array .byte))) (by decide) (by decide)))).other W40 (Or.inr (slot_ne (Or.inl (hw _ (List.mem_of_getElem? (i := 12) rfl))) (Or.inl (hw _ (List.mem_of_getElem? (i := 63) rfl))) (by decide) (t := (.array (.array (.object "java/lang/Object")))) (t' := .int) (by decide) (by decide)))).other W42 (Or.inr (slot_ne (Or.inl (hw _ (List.mem_of_getElem? (i := 12) rfl))) (Or.inl (hw _ (List.mem_of_getElem? (i := 34) rfl))) (by decide) (t := (.array (.array (.object "java/lang/Object")))) (t' := .int) (by decide) (by decide)))), (((Fw36.other W38 (Or.inr (slot_ne (Or.inl (hw _ (List.mem_of_getElem? (i := 16) rfl))) (Or.inl (hw _ (List.mem_of_getElem? (i := 20) rfl))) (by decide) (t := (.array (.array .long))) (t' := (.array (.array .byte))) (by decide) (by decide)))).other W40 (Or.inr (slot_ne (Or.inl (hw _ (List.mem_of_getElem? (i := 16) rfl))) (Or.inl (hw _ (List.mem_of_getElem? (i := 63) rfl))) (by decide) (t := (.array (.array .long))) (t' := .int) (by decide) (by decide)))).other W42 (Or.inr (slot_ne (Or.inl (hw _ (List.mem_of_getElem? (i := 16) rfl))) (Or.inl (hw _ (List.mem_of_getElem? (i := 34) rfl))) (by decide) (t := (.array (.array .long))) (t' := .int) (by decide) (by decide)))), ((Fw38.other W40 (Or.inr (slot_ne (Or.inl (hw _ (List.mem_of_getElem? (i := 20) rfl))) (Or.inl (hw _ (List.mem_of_getElem? (i := 63) rfl))) (by decide) (t := (.array (.array .byte))) (t' := .int) (by decide) (by decide)))).other W42 (Or.inr (slot_ne (Or.inl (hw _ (List.mem_of_getElem? (i := 20) rfl))) (Or.inl (hw _ (List.mem_of_getElem? (i := 34) rfl))) (by decide) (t := (.array (.array .byte))) (t' := .int) (by decide) (by decide)))), ⟨_, (Fw40.other W42 (Or.inr (slot_ne (Or.inl (hw _ (List.mem_of_getElem? (i := 63) rfl))) (Or.inl (hw _ (List.mem_of_getElem? (i := 34) rfl))) (by decide) (t := .int) (t' := .int) (by decide) (by decide))))⟩, Fw42, ((((((((((Ex18.ext E22).ext E26).wr W28).wr W30).wr W32).wr W34).wr W36).wr W38).wr W40).wr W42), (((((((((Ex22.ext E26).wr W28).wr W30).wr W32).wr W34).wr W36).wr W38).wr W40).wr W42), ((((((((Ex26.wr W28).wr W30).wr W32).wr W34).wr W36).wr W38).wr W40).wr W42), (((((((((((((Ex6.ext E10).ext E14).ext E18).ext E22).ext E26).wr W28).wr W30).wr W32).wr W34).wr W36).wr W38).wr W40).wr W42), ((((((((((((Ex10.ext E14).ext E18).ext E22).ext E26).wr W28).wr W30).wr W32).wr W34).wr W36).wr W38).wr W40).wr W42), (((((((((((Ex14.ext E18).ext E22).ext E26).wr W28).wr W30).wr W32).wr W34).wr W36).wr W38).wr W40).wr W42), (((((((V28.other W30 (Exa.ne ((((((((((Ex18.ext E22).ext E26).wr W28).wr W30).wr W32).wr W34).wr W36).wr W38).wr W40).wr W42) (((((((((Ex22.ext E26).wr W28).wr W30).wr W32).wr W34).wr W36).wr W38).wr W40).wr W42) (by decide))).other W32 (Exa.ne ((((((((((Ex18.ext E22).ext E26).wr W28).wr W30).wr W32).wr W34).wr W36).wr W38).wr W40).wr W42) ((((((((Ex26.wr W28).wr W30).wr W32).wr W34).wr W36).wr W38).wr W40).wr W42) (by decide))).other W34 (Exa.ne ((((((((((Ex18.ext E22).ext E26).wr W28).wr W30).wr W32).wr W34).wr W36).wr W38).wr W40).wr W42) ((((((((((((((E_r0.ext E6).ext E10).ext E14).ext E18).ext E22).ext E26).wr W28).wr W30).wr W32).wr W34).wr W36).wr W38).wr W40).wr W42) (by decide))).other W36 (Exa.ne ((((((((((Ex18.ext E22).ext E26).wr W28).wr W30).wr W32).wr W34).wr W36).wr W38).wr W40).wr W42) ((((((((((((((E_r0.ext E6).ext E10).ext E14).ext E18).ext E22).ext E26).wr W28).wr W30).wr W32).wr W34).wr W36).wr W38).wr W40).wr W42) (by decide))).other W38 (Exa.ne ((((((((((Ex18.ext E22).ext E26).wr W28).wr W30).wr W32).wr W34).wr W36).wr W38).wr W40).wr W42) ((((((((((((((E_r0.ext E6).ext E10).ext E14).ext E18).ext E22).ext E26).wr W28).wr W30).wr W32).wr W34).wr W36).wr W38).wr W40).wr W42) (by decide))).other W40 (Exa.ne ((((((((((Ex18.ext E22).ext E26).wr W28).wr W30).wr W32).wr W34).wr W36).wr W38).wr W40).wr W42) ((((((((((((((E_r0.ext E6).ext E10).ext E14).ext E18).ext E22).ext E26).wr W28).wr W30).wr W32).wr W34).wr W36).wr W38).wr W40).wr W42) (by decide))).other W42 (Exa.ne ((((((((((Ex18.ext E22).ext E26).wr W28).wr W30).wr W32).wr W34).wr W36).wr W38).wr W40).wr W42) ((((((((((((((E_r0.ext E6).ext E10).ext E14).ext E18).ext E22).ext E26).wr W28).wr W30).wr W32).wr W34).wr W36).wr W38).wr W40).wr W42) (by decide))), ((((((V30.other W32 (Exa.ne (((((((((Ex22.ext E26).wr W28).wr W30).wr W32).wr W34).wr W36).wr W38).wr W40).wr W42) ((((((((Ex26.wr W28).wr W30).wr W32).wr W34).wr W36).wr W38).wr W40).wr W42) (by decide))).other W34 (Exa.ne (((((((((Ex22.ext E26).wr W28).wr W30).wr W32).wr W34).wr W36).wr W38).wr W40).wr W42) ((((((((((((((E_r0.ext E6).ext E10).ext E14).ext E18).ext E22).ext E26).wr W28).wr W30).wr W32).wr W34).wr W36).wr W38).wr W40).wr W42) (by decide))).other W36 (Exa.ne (((((((((Ex22.ext E26).wr W28).wr W30).wr W32).wr W34).wr W36).wr W38).wr W40).wr W42) ((((((((((((((E_r0.ext E6).ext E10).ext E14).ext E18).ext E22).ext E26).wr W28).wr W30).wr W32).wr W34).wr W36).wr W38).wr W40).wr W42) (by decide))).other W38 (Exa.ne (((((((((Ex22.ext E26).wr W28).wr W30).wr W32).wr W34).wr W36).wr W38).wr W40).wr W42) ((((((((((((((E_r0.ext E6).ext E10).ext E14).ext E18).ext E22).ext E26).wr W28).wr W30).wr W32).wr W34).wr W36).wr W38).wr W40).wr W42) (by decide))).other W40 (Exa.ne (((((((((Ex22.ext E26).wr W28).wr W30).wr W32).wr W34).wr W36).wr W38).wr W40).wr W42) ((((((((((((((E_r0.ext E6).ext E10).ext E14).ext E18).ext E22).ext E26).wr W28).wr W30).wr W32).wr W34).wr W36).wr W38).wr W40).wr W42) (by decide))).other W42 (Exa.ne (((((((((Ex22.ext E26).wr W28).wr W30).wr W32).wr W34).wr W36).wr W38).wr W40).wr W42) ((((((((((((((E_r0.ext E6).ext E10).ext E14).ext E18).ext E22).ext E26).wr W28).wr W30).wr W32).wr W34).wr W36).wr W38).wr W40).wr W42) (by decide))), (((((V32.other W34 (Exa.ne ((((((((Ex26.wr W28).wr W30).wr W32).wr W34).wr W36).wr W38).wr W40).wr W42) ((((((((((((((E_r0.ext E6).ext E10).ext E14).ext E18).ext E22).ext E26).wr W28).wr W30).wr W32).wr W34).wr W36).wr W38).wr W40).wr W42) (by decide))).other W36 (Exa.ne ((((((((Ex26.wr W28).wr W30).wr W32).wr W34).wr W36).wr W38).wr W40).wr W42) ((((((((((((((E_r0.ext E6).ext E10).ext E14).ext E18).ext E22).ext E26).wr W28).wr W30).wr W32).wr W34).wr W36).wr W38).wr W40).wr W42) (by decide))).other W38 (Exa.ne ((((((((Ex26.wr W28).wr W30).wr W32).wr W34).wr W36).wr W38).wr W40).wr W42) ((((((((((((((E_r0.ext E6).ext E10).ext E14).ext E18).ext E22).ext E26).wr W28).wr W30).wr W32).wr W34).wr W36).wr W38).wr W40).wr W42) (by decide))).other W40 (Exa.ne ((((((((Ex26.wr W28).wr W30).wr W32).wr W34).wr W36).wr W38).wr W40).wr W42) ((((((((((((((E_r0.ext E6).ext E10).ext E14).ext E18).ext E22).ext E26).wr W28).wr W30).wr W32).wr W34).wr W36).wr W38).wr W40).wr W42) (by decide))).other W42 (Exa.ne ((((((((Ex26.wr W28).wr W30).wr W32).wr W34).wr W36).wr W38).wr W40).wr W42) ((((((((((((((E_r0.ext E6).ext E10).ext E14).ext E18).ext E22).ext E26).wr W28).wr W30).wr W32).wr W34).wr W36).wr W38).wr W40).wr W42) (by decide))), (((((((((((((V_b6.ext E10).ext E14).ext E18).ext E22).ext E26).other W28 (Exa.ne (((((((((((((Ex6.ext E10).ext E14).ext E18).ext E22).ext E26).wr W28).wr W30).wr W32).wr W34).wr W36).wr W38).wr W40).wr W42) ((((((((((Ex18.ext E22).ext E26).wr W28).wr W30).wr W32).wr W34).wr W36).wr W38).wr W40).wr W42) (by decide))).other W30 (Exa.ne (((((((((((((Ex6.ext E10).ext E14).ext E18).ext E22).ext E26).wr W28).wr W30).wr W32).wr W34).wr W36).wr W38).wr W40).wr W42) (((((((((Ex22.ext E26).wr W28).wr W30).wr W32).wr W34).wr W36).wr W38).wr W40).wr W42) (by decide))).other W32 (Exa.ne (((((((((((((Ex6.ext E10).ext E14).ext E18).ext E22).ext E26).wr W28).wr W30).wr W32).wr W34).wr W36).wr W38).wr W40).wr W42) ((((((((Ex26.wr W28).wr W30).wr W32).wr W34).wr W36).wr W38).wr W40).wr W42) (by decide))).other W34 (Exa.ne (((((((((((((Ex6.ext E10).ext E14).ext E18).ext E22).ext E26).wr W28).wr W30).wr W32).wr W34).wr W36).wr W38).wr W40).wr W42) ((((((((((((((E_r0.ext E6).ext E10).ext E14).ext E18).ext E22).ext E26).wr W28).wr W30).wr W32).wr W34).wr W36).wr W38).wr W40).wr W42) (by decide))).other W36 (Exa.ne (((((((((((((Ex6.ext E10).ext E14).ext E18).ext E22).ext E26).wr W28).wr W30).wr W32).wr W34).wr W36).wr W38).wr W40).wr W42) ((((((((((((((E_r0.ext E6).ext E10).ext E14).ext E18).ext E22).ext E26).wr W28).wr W30).wr W32).wr W34).wr W36).wr W38).wr W40).wr W42) (by decide))).other W38 (Exa.ne (((((((((((((Ex6.ext E10).ext E14).ext E18).ext E22).ext E26).wr W28).wr W30).wr W32).wr W34).wr W36).wr W38).wr W40).wr W42) ((((((((((((((E_r0.ext E6).ext E10).ext E14).ext E18).ext E22).ext E26).wr W28).wr W30).wr W32).wr W34).wr W36).wr W38).wr W40).wr W42) (by decide))).other W40 (Exa.ne (((((((((((((Ex6.ext E10).ext E14).ext E18).ext E22).ext E26).wr W28).wr W30).wr W32).wr W34).wr W36).wr W38).wr W40).wr W42) ((((((((((((((E_r0.ext E6).ext E10).ext E14).ext E18).ext E22).ext E26).wr W28).wr W30).wr W32).wr W34).wr W36).wr W38).wr W40).wr W42) (by decide))).other W42 (Exa.ne (((((((((((((Ex6.ext E10).ext E14).ext E18).ext E22).ext E26).wr W28).wr W30).wr W32).wr W34).wr W36).wr W38).wr W40).wr W42) ((((((((((((((E_r0.ext E6).ext E10).ext E14).ext E18).ext E22).ext E26).wr W28).wr W30).wr W32).wr W34).wr W36).wr W38).wr W40).wr W42) (by decide))), ((((((((((((V_b10.ext E14).ext E18).ext E22).ext E26).other W28 (Exa.ne ((((((((((((Ex10.ext E14).ext E18).ext E22).ext E26).wr W28).wr W30).wr W32).wr W34).wr W36).wr W38).wr W40).wr W42) ((((((((((Ex18.ext E22).ext E26).wr W28).wr W30).wr W32).wr W34).wr W36).wr W38).wr W40).wr W42) (by decide))).other W30 (Exa.ne ((((((((((((Ex10.ext E14).ext E18).ext E22).ext E26).wr W28).wr W30).wr W32).wr W34).wr W36).wr W38).wr W40).wr W42) (((((((((Ex22.ext E26).wr W28).wr W30).wr W32).wr W34).wr W36).wr W38).wr W40).wr W42) (by decide))).other W32 (Exa.ne ((((((((((((Ex10.ext E14).ext E18).ext E22).ext E26).wr W28).wr W30).wr W32).wr W34).wr W36).wr W38).wr W40).wr W42) ((((((((Ex26.wr W28).wr W30).wr W32).wr W34).wr W36).wr W38).wr W40).wr W42) (by decide))).other W34 (Exa.ne ((((((((((((Ex10.ext E14).ext E18).ext E22).ext E26).wr W28).wr W30).wr W32).wr W34).wr W36).wr W38).wr W40).wr W42) ((((((((((((((E_r0.ext E6).ext E10).ext E14).ext E18).ext E22).ext E26).wr W28).wr W30).wr W32).wr W34).wr W36).wr W38).wr W40).wr W42) (by decide))).other W36 (Exa.ne ((((((((((((Ex10.ext E14).ext E18).ext E22).ext E26).wr W28).wr W30).wr W32).wr W34).wr W36).wr W38).wr W40).wr W42) ((((((((((((((E_r0.ext E6).ext E10).ext E14).ext E18).ext E22).ext E26).wr W28).wr W30).wr W32).wr W34).wr W36).wr W38).wr W40).wr W42) (by decide))).other W38 (Exa.ne ((((((((((((Ex10.ext E14).ext E18).ext E22).ext E26).wr W28).wr W30).wr W32).wr W34).wr W36).wr W38).wr W40).wr W42) ((((((((((((((E_r0.ext E6).ext E10).ext E14).ext E18).ext E22).ext E26).wr W28).wr W30).wr W32).wr W34).wr W36).wr W38).wr W40).wr W42) (by decide))).other W40 (Exa.ne ((((((((((((Ex10.ext E14).ext E18).ext E22).ext E26).wr W28).wr W30).wr W32).wr W34).wr W36).wr W38).wr W40).wr W42) ((((((((((((((E_r0.ext E6).ext E10).ext E14).ext E18).ext E22).ext E26).wr W28).wr W30).wr W32).wr W34).wr W36).wr W38).wr W40).wr W42) (by decide))).other W42 (Exa.ne ((((((((((((Ex10.ext E14).ext E18).ext E22).ext E26).wr W28).wr W30).wr W32).wr W34).wr W36).wr W38).wr W40).wr W42) ((((((((((((((E_r0.ext E6).ext E10).ext E14).ext E18).ext E22).ext E26).wr W28).wr W30).wr W32).wr W34).wr W36).wr W38).wr W40).wr W42) (by decide))), (((((((((((V_b14.ext E18).ext E22).ext E26).other W28 (Exa.ne (((((((((((Ex14.ext E18).ext E22).ext E26).wr W28).wr W30).wr W32).wr W34).wr W36).wr W38).wr W40).wr W42) ((((((((((Ex18.ext E22).ext E26).wr W28).wr W30).wr W32).wr W34).wr W36).wr W38).wr W40).wr W42) (by decide))).other W30 (Exa.ne (((((((((((Ex14.ext E18).ext E22).ext E26).wr W28).wr W30).wr W32).wr W34).wr W36).wr W38).wr W40).wr W42) (((((((((Ex22.ext E26).wr W28).wr W30).wr W32).wr W34).wr W36).wr W38).wr W40).wr W42) (by decide))).other W32 (Exa.ne (((((((((((Ex14.ext E18).ext E22).ext E26).wr W28).wr W30).wr W32).wr W34).wr W36).wr W38).wr W40).wr W42) ((((((((Ex26.wr W28).wr W30).wr W32).wr W34).wr W36).wr W38).wr W40).wr W42) (by decide))).other W34 (Exa.ne (((((((((((Ex14.ext E18).ext E22).ext E26).wr W28).wr W30).wr W32).wr W34).wr W36).wr W38).wr W40).wr W42) ((((((((((((((E_r0.ext E6).ext E10).ext E14).ext E18).ext E22).ext E26).wr W28).wr W30).wr W32).wr W34).wr W36).wr W38).wr W40).wr W42) (by decide))).other W36 (Exa.ne (((((((((((Ex14.ext E18).ext E22).ext E26).wr W28).wr W30).wr W32).wr W34).wr W36).wr W38).wr W40).wr W42) ((((((((((((((E_r0.ext E6).ext E10).ext E14).ext E18).ext E22).ext E26).wr W28).wr W30).wr W32).wr W34).wr W36).wr W38).wr W40).wr W42) (by decide))).other W38 (Exa.ne (((((((((((Ex14.ext E18).ext E22).ext E26).wr W28).wr W30).wr W32).wr W34).wr W36).wr W38).wr W40).wr W42) ((((((((((((((E_r0.ext E6).ext E10).ext E14).ext E18).ext E22).ext E26).wr W28).wr W30).wr W32).wr W34).wr W36).wr W38).wr W40).wr W42) (by decide))).other W40 (Exa.ne (((((((((((Ex14.ext E18).ext E22).ext E26).wr W28).wr W30).wr W32).wr W34).wr W36).wr W38).wr W40).wr W42) ((((((((((((((E_r0.ext E6).ext E10).ext E14).ext E18).ext E22).ext E26).wr W28).wr W30).wr W32).wr W34).wr W36).wr W38).wr W40).wr W42) (by decide))).other W42 (Exa.ne (((((((((((Ex14.ext E18).ext E22).ext E26).wr W28).wr W30).wr W32).wr W34).wr W36).wr W38).wr W40).wr W42) ((((((((((((((E_r0.ext E6).ext E10).ext E14).ext E18).ext E22).ext E26).wr W28).wr W30).wr W32).wr W34).wr W36).wr W38).wr W40).wr W42) (by decide))), O18, O22, O26, O6⟩⟩
theorem d6_0 : decode prog_42_method_4_code 0 = .ok (.aload_n 0, 1) := by decide +kernel
theorem d6_1 : decode prog_42_method_4_code 1 = .ok (.getfield 27, 3) := by decide +kernel
theorem d6_4 : decode prog_42_method_4_code 4 = .ok (.ldc 31, 2) := by decide +kernel
theorem d6_6 : decode prog_42_method_4_code 6 = .ok (.if_icmp .ne 13, 3) := by decide +kernel
theorem d6_19 : decode prog_42_method_4_code 19 = .ok (.aload_n 0, 1) := by decide +kernel
theorem d6_20 : decode prog_42_method_4_code 20 = .ok (.getfield 27, 3) := by decide +kernel
theorem d6_23 : decode prog_42_method_4_code 23 = .ok (.sipush 1024, 3) := by decide +kernel
theorem d6_26 : decode prog_42_method_4_code 26 = .ok (.if_icmp .ge 10, 3) := by decide +kernel
theorem d6_29 : decode prog_42_method_4_code 29 = .ok (.aload_n 0, 1) := by decide +kernel
theorem pd6 : parseMethodDescriptor "()V" = some ⟨[], none⟩ := by decide +kernel
theorem d6_30 : decode prog_42_method_4_code 30 = .ok (.invokevirtual 39, 3) := by decide +kernel
theorem d6_33 : decode prog_42_method_4_code 33 = .ok (.goto 7, 3) := by decide +kernel
theorem d6_40 : decode prog_42_method_4_code 40 = .ok (.return_, 1) := by decide +kernel
theorem ef_6c0 (m : MethodId) (x0 : Addr) : entryFrame m #[(.ref x0)] 1 = mkF m 0 #[.val (.ref x0)] [] := by first | (simp [entryFrame, mkF, argsToLocals, Value.category]; done) | rfl
def Q6c0 (Z : State) (r0 : Addr) (i0 : Addr) (t0 : Addr) (f0 : Addr) (w0 : Int32) (h0 : Heap) (n0 : Nat) (v : Option Value) (h : Heap) (L : List Loc) : Prop := ∃ zI1 zT1 zF1 zi2 zt2 zf2 : Addr, ∃ zkI zkT zkF zki zkt zkf : ClassId, v = none ∧ Fr n0 L ∧ Keep h0 h [r0] ∧ (n0 ≤ zI1 ∧ n0 ≤ zT1 ∧ n0 ≤ zF1 ∧ n0 ≤ zi2 ∧ n0 ≤ zt2 ∧ n0 ≤ zf2) ∧ own_Sl Z h r0 zI1 zT1 zF1 zi2 zt2 zf2 zkI zkT zkF zki zkt zkf (16 : Int32) (32 : Int32)
set_option maxRecDepth 65536 in
set_option maxHeartbeats 40000000 in
theorem rm6c0 (l : Launch) (Z : State) (a0 : Array Value) (hw : ∀ d ∈ tables_1, d.before a0 Z = true) (ws : List Jvm.Cond) (r0 : Addr) (i0 : Addr) (t0 : Addr) (f0 : Addr) (w0 : Int32) (h0 : Heap) (n0 : Nat) (Z0 : n0 ≤ h0.size) (F_items_r0 : Fld Z h0 r0 "com/example/loopsmith/loopsmith/queue/Slots" "items" "[[Ljava/lang/Object;" (.ref i0)) (F_times_r0 : Fld Z h0 r0 "com/example/loopsmith/loopsmith/queue/Slots" "times" "[[J" (.ref t0)) (F_flags_r0 : Fld Z h0 r0 "com/example/loopsmith/loopsmith/queue/Slots" "flags" "[[B" (.ref f0)) (F_blocks_r0 : Fld Z h0 r0 "com/example/loopsmith/loopsmith/queue/Slots" "blocks" "I" (.int w0)) (F_capacity_r0 : Fld Z h0 r0 "com/example/loopsmith/loopsmith/queue/Slots" "capacity" "I" (.int (0 : Int32))) (E_r0 : Exa Z h0 r0 "com/example/loopsmith/loopsmith/queue/Slots") (g_r0 : n0 ≤ r0) :
    MetFree l (⟨"com/example/loopsmith/loopsmith/queue/Slots", "grow", "()V"⟩ : MethodName) (head1 (Jvm.Cond.code (⟨"com/example/loopsmith/loopsmith/queue/Slots", "grow", "()V"⟩ : MethodName) prog_42_method_4_code 1 none :: ws) ({ frames := 2, cells := 6, slots := 83, locals := 32 } : Room)) (fun a U => a = #[(.ref r0)] ∧ Z.Warmed39 U.vm ∧ U.heap = h0) (fun _ _ _ _ _ => True) (fun _ U o U' => ∃ v L, o = .returned v ∧ Q6c0 Z r0 i0 t0 f0 w0 h0 n0 v U'.heap L ∧ FrameEnd U o U' L ({ frames := 2, cells := 6, slots := 83, locals := 32 } : Room).cells ({ frames := 2, cells := 6, slots := 83, locals := 32 } : Room).slots) := by
  refine MetFree.of_bodySF (plainFor_of_name pn4) hisR ?_
  intro p e s m args below meth c s₁ Bd hml0 hP hK
  obtain ⟨rfl, hZ, hh⟩ := hP
  have hx := Bd.exec
  have hby := Bd.bytes
  have hml : c.maxLocals = 1 := hml0
  have hown : s.vm.findClass "com/example/loopsmith/loopsmith/queue/Slots" = some m.cls := findClass_of_methodNamed Bd.named
  have hnm := (name_of_methodNamed Bd.named Bd.method).1
  have X0 : Stand p l e ({ frames := 2, cells := 6, slots := 83, locals := 32 } : Room) s m #[(.ref r0)] below meth c s₁ [] 0 0 := Stand.of_body Bd
  have e0 : s₁.heap = h0 := by rw [← hh, Bd.state]; rfl
  have N0 := Fr.nil n0
  have pre0 : ∀ t, Steps p.tables e below (s₁.setTop (mkF m 0 #[rv r0] [])) t → Steps p.tables e below (s₁.setTop (entryFrame m #[(.ref r0)] 1)) t := fun t k => castTop (ef_6c0 m r0) k
  have pre1 : ∀ t, Steps p.tables e below (s₁.setTop (mkF m 1 #[rv r0] [(.ref r0)])) t → Steps p.tables e below (s₁.setTop (entryFrame m #[(.ref r0)] 1)) t := by
    intro t kt
    refine pre0 _ ?_
    show Steps p.tables e below (s₁.setTop (mkF m 0 #[rv r0] [])) _
    refine XS.aloadN X0.here hx rfl (hb hby d6_0) rfl rfl ?_
    exact kt
  obtain ⟨T2, X2, e2, st2⟩ := getF X0 hx hZ hown (host := "") (Or.inl (hw _ (List.mem_of_getElem? (i := 33) rfl))) Via.refl e0 F_capacity_r0 (g := (mkF m 1 #[rv r0] [(.ref r0)])) rfl rfl (hb hby d6_1)
  have pre3 : ∀ t, Steps p.tables e below (T2.setTop (mkF m 20 #[rv r0] [(.ref r0)])) t → Steps p.tables e below (s₁.setTop (entryFrame m #[(.ref r0)] 1)) t := by
    intro t kt
    refine pre1 _ ?_
    show Steps p.tables e below (s₁.setTop (mkF m 1 #[rv r0] [(.ref r0)])) _
    refine st2 _ ?_
    show Steps p.tables e below (T2.setTop (mkF m 4 #[rv r0] [(.int (0 : Int32))])) _
    refine X2.ldcInt hx hown (mvT hZ (hw _ (List.mem_of_getElem? (i := 45) rfl))) (g := (mkF m 4 #[rv r0] [(.int (0 : Int32))])) rfl (hb hby d6_4) _ ?_
    show Steps p.tables e below (T2.setTop (mkF m 6 #[rv r0] [(.int (536870912 : Int32)), (.int (0 : Int32))])) _
    refine XS.icmpYes X2.here hx rfl (pc0 := 6) (pc' := 19) rfl (hb hby d6_6) rfl (feq (by decide)).2 (by decide) (by decide) ?_
    refine XS.aloadN X2.here hx rfl (hb hby d6_19) rfl rfl ?_
    exact kt
  obtain ⟨T4, X4, e4, st4⟩ := getF X2 hx hZ hown (host := "") (Or.inl (hw _ (List.mem_of_getElem? (i := 33) rfl))) Via.refl e2 F_capacity_r0 (g := (mkF m 20 #[rv r0] [(.ref r0)])) rfl rfl (hb hby d6_20)
  have pre5 : ∀ t, Steps p.tables e below (T4.setTop (mkF m 30 #[rv r0] [(.ref r0)])) t → Steps p.tables e below (s₁.setTop (entryFrame m #[(.ref r0)] 1)) t := by
    intro t kt
    refine pre3 _ ?_
    show Steps p.tables e below (T2.setTop (mkF m 20 #[rv r0] [(.ref r0)])) _
    refine st4 _ ?_
    show Steps p.tables e below (T4.setTop (mkF m 23 #[rv r0] [(.int (0 : Int32))])) _
    refine XS.sipush X4.here hx rfl (hb hby d6_23) ?_
    refine XS.icmpNo X4.here hx rfl (hb hby d6_26) rfl (tlt (by decide)).2.1 ?_
    refine XS.aloadN X4.here hx rfl (hb hby d6_29) rfl rfl ?_
    exact kt
  obtain ⟨cq6, q6, q6'⟩ := E_r0.cell
  obtain ⟨_, _, ⟨T6, L6, k6, n6⟩, -, X6, ⟨Lc6, hQ6, l6, y6, z6⟩, st6⟩ := X4.privateBack hx (y := (⟨"com/example/loopsmith/loopsmith/queue/Slots", "growFirstBlock", "()V"⟩ : MethodName)) hown (mvT hZ (hw _ (List.mem_of_getElem? (i := 46) rfl))) (mvT hZ (hw _ (List.mem_of_getElem? (i := 47) rfl))) (own_selp (y := (⟨"com/example/loopsmith/loopsmith/queue/Slots", "growFirstBlock", "()V"⟩ : MethodName)) (mvT hZ (hw _ (List.mem_of_getElem? (i := 1) rfl))) (Cond.privateMethod_at (mvP hZ (hw _ (List.mem_of_getElem? (i := 48) rfl)) (args := #[]))) (mvT hZ (hw _ (List.mem_of_getElem? (i := 47) rfl))) (by decide)) (Cond.privateMethod_at (mvP hZ (hw _ (List.mem_of_getElem? (i := 48) rfl)) (args := #[]))) (mvT hZ (hw _ (List.mem_of_getElem? (i := 49) rfl))) (by decide) (backOf (W := 0) (rm7c0 l Z a0 hw [] r0 i0 t0 f0 w0 h0 n0 (Nat.le_trans Z0 (Keep.refl h0 [r0]).1) F_items_r0 F_times_r0 F_flags_r0 F_blocks_r0 F_capacity_r0 E_r0 g_r0) hZ (hw _ (List.mem_of_getElem? (i := 49) rfl)) (hw _ (List.mem_of_getElem? (i := 2) rfl)) (by decide) (by decide)) (g := (mkF m 30 #[rv r0] [(.ref r0)])) rfl (by rw [hml]; rfl) (Steps.refl _) (a := r0) (by rw [e4]; exact q6) q6' (argsL := []) (rest := []) (lenOf pd6 rfl) rfl (by show 2 * 0 + _ ≤ _; exact Nat.le_of_eq rfl) (hb hby d6_30) (fun _ _ => ⟨rfl, e4, (by decide : 0 + 6 ≤ _), (by decide : 0 + 83 ≤ _)⟩)
  dsimp only [Pt.U, Pt.locs, Pt.cells, Pt.slots] at X6 l6 y6 z6 st6 hQ6
  subst l6 y6 z6
  obtain ⟨I1_6, T1_6, F1_6, i2_6, t2_6, f2_6, kI_6, kT_6, kF_6, ki_6, kt_6, kf_6, rfl, N6q, Kc6, hg6, Sl6⟩ := hQ6
  have N6 := Fr.app N0 N6q
  have K6 : Keep h0 T6.heap [r0] := (Keep.refl h0 [r0]).trans Kc6 (allS (Or.inl (List.mem_of_getElem? (i := 0) rfl)) all0)
  obtain ⟨g_I1_6, g_T1_6, g_F1_6, g_i2_6, g_t2_6, g_f2_6⟩ := hg6
  obtain ⟨Sit6, Sti6, Sfl6, ⟨wb6, Sbl6⟩, Sca6, SeI16, SeT16, SeF16, Sei26, Set26, Sef26, SvI16, SvT16, SvF16, Svi26, Svt26, Svf26, SoI16, SoT16, SoF16, Soi26⟩ := id Sl6
  have pre7 : ∀ t, Steps p.tables e below (T6.setTop (mkF m 40 #[rv r0] [])) t → Steps p.tables e below (s₁.setTop (entryFrame m #[(.ref r0)] 1)) t := by
    intro t kt
    refine pre5 _ ?_
    show Steps p.tables e below (T4.setTop (mkF m 30 #[rv r0] [(.ref r0)])) _
    refine st6.trans ?_
    show Steps p.tables e below (T6.setTop (mkF m 33 #[rv r0] [])) _
    refine XS.goto X6.here hx rfl (pc0 := 33) (pc' := 40) rfl (hb hby d6_33) (by decide) (by decide) ?_
    exact kt
  obtain ⟨fs, hr, hrun, hended, hW, hsame⟩ := X6.leave (v := none) (fun _ => rfl)
  refine ⟨_, _, pre7 _ ?_, hrun, hended, _, _, rfl, ?_, ⟨_, rfl⟩, hW, hsame.mono (by decide) (by decide)⟩
  · show Steps p.tables e below (T6.setTop (mkF m 40 #[rv r0] [])) _
    exact X6.returnOut hx Bd.returns (hb hby d6_40) hr
  · show Q6c0 Z r0 i0 t0 f0 w0 h0 n0 _ T6.heap _
    exact ⟨I1_6, T1_6, F1_6, i2_6, t2_6, f2_6, kI_6, kT_6, kF_6, ki_6, kt_6, kf_6, rfl, N6, K6, ⟨g_I1_6, g_T1_6, g_F1_6, g_i2_6, g_t2_6, g_f2_6⟩, ⟨Sit6, Sti6, Sfl6, ⟨_, Sbl6⟩, Sca6, SeI16, SeT16, SeF16, Sei26, Set26, Sef26, SvI16, SvT16, SvF16, Svi26, Svt26, Svf26, SoI16, SoT16, SoF16, Soi26⟩⟩
theorem d7_21 : decode prog_42_method_15_code 21 = .ok (.aload_n 0, 1) := by decide +kernel
theorem d7_22 : decode prog_42_method_15_code 22 = .ok (.getfield 11, 3) := by decide +kernel
theorem d7_25 : decode prog_42_method_15_code 25 = .ok (.iconst 0, 1) := by decide +kernel
theorem d7_26 : decode prog_42_method_15_code 26 = .ok (.aaload, 1) := by decide +kernel
theorem d7_27 : decode prog_42_method_15_code 27 = .ok (.iconst 2, 1) := by decide +kernel
theorem d7_28 : decode prog_42_method_15_code 28 = .ok (.iload_n 1, 1) := by decide +kernel
theorem d7_29 : decode prog_42_method_15_code 29 = .ok (.imul, 1) := by decide +kernel
theorem pd7 : parseMethodDescriptor "([Ljava/lang/Object;I)[Ljava/lang/Object;" = some ⟨[(.array (.object "java/lang/Object")), .int], some (.array (.object "java/lang/Object"))⟩ := by decide +kernel
theorem d7_30 : decode prog_42_method_15_code 30 = .ok (.invokestatic 83, 3) := by decide +kernel
theorem d7_49 : decode prog_42_method_15_code 49 = .ok (.aload_n 0, 1) := by decide +kernel
theorem d7_50 : decode prog_42_method_15_code 50 = .ok (.getfield 17, 3) := by decide +kernel
theorem d7_53 : decode prog_42_method_15_code 53 = .ok (.iconst 0, 1) := by decide +kernel
theorem d7_54 : decode prog_42_method_15_code 54 = .ok (.aaload, 1) := by decide +kernel
theorem d7_55 : decode prog_42_method_15_code 55 = .ok (.iconst 2, 1) := by decide +kernel
theorem d7_56 : decode prog_42_method_15_code 56 = .ok (.iload_n 1, 1) := by decide +kernel
theorem d7_57 : decode prog_42_method_15_code 57 = .ok (.imul, 1) := by decide +kernel
theorem pd8 : parseMethodDescriptor "([JI)[J" = some ⟨[(.array .long), .int], some (.array .long)⟩ := by decide +kernel
theorem d7_58 : decode prog_42_method_15_code 58 = .ok (.invokestatic 89, 3) := by decide +kernel
theorem d7_75 : decode prog_42_method_15_code 75 = .ok (.aload_n 0, 1) := by decide +kernel
theorem d7_76 : decode prog_42_method_15_code 76 = .ok (.getfield 23, 3) := by decide +kernel
theorem d7_79 : decode prog_42_method_15_code 79 = .ok (.iconst 0, 1) := by decide +kernel
theorem d7_80 : decode prog_42_method_15_code 80 = .ok (.aaload, 1) := by decide +kernel
theorem d7_81 : decode prog_42_method_15_code 81 = .ok (.iload_n 1, 1) := by decide +kernel
theorem pd9 : parseMethodDescriptor "([BI)[B" = some ⟨[(.array .byte), .int], some (.array .byte)⟩ := by decide +kernel
theorem d7_82 : decode prog_42_method_15_code 82 = .ok (.invokestatic 92, 3) := by decide +kernel
theorem d7_101 : decode prog_42_method_15_code 101 = .ok (.aload_n 0, 1) := by decide +kernel
theorem d7_102 : decode prog_42_method_15_code 102 = .ok (.getfield 11, 3) := by decide +kernel
theorem d7_121 : decode prog_42_method_15_code 121 = .ok (.aload_n 0, 1) := by decide +kernel
theorem d7_122 : decode prog_42_method_15_code 122 = .ok (.getfield 17, 3) := by decide +kernel
theorem d7_141 : decode prog_42_method_15_code 141 = .ok (.aload_n 0, 1) := by decide +kernel
theorem d7_142 : decode prog_42_method_15_code 142 = .ok (.getfield 23, 3) := by decide +kernel
theorem ef_7c16 (m : MethodId) (x0 : Addr) : entryFrame m #[(.ref x0)] 8 = mkF m 0 #[.val (.ref x0), .unset, .unset, .unset, .unset, .unset, .unset, .unset] [] := by first | (simp [entryFrame, mkF, argsToLocals, Value.category]; done) | rfl
def Q7c16 (Z : State) (r0 : Addr) (mr : Addr) (I1 : Addr) (T1 : Addr) (F1 : Addr) (i2 : Addr) (t2 : Addr) (f2 : Addr) (kI : ClassId) (kT : ClassId) (kF : ClassId) (ki : ClassId) (kt : ClassId) (kf : ClassId) (h0 : Heap) (n0 : Nat) (v : Option Value) (h : Heap) (L : List Loc) : Prop := ∃ zI1 zT1 zF1 zi2 zt2 zf2 : Addr, ∃ zkI zkT zkF zki zkt zkf : ClassId, v = none ∧ Fr n0 L ∧ Keep h0 h [r0, I1, T1, F1] ∧ (n0 ≤ zI1 ∧ n0 ≤ zT1 ∧ n0 ≤ zF1 ∧ n0 ≤ zi2 ∧ n0 ≤ zt2 ∧ n0 ≤ zf2) ∧ own_Sl Z h r0 zI1 zT1 zF1 zi2 zt2 zf2 zkI zkT zkF zki zkt zkf (32 : Int32) (64 : Int32)
set_option maxRecDepth 65536 in
set_option maxHeartbeats 40000000 in
theorem rm7c16 (l : Launch) (Z : State) (a0 : Array Value) (hw : ∀ d ∈ tables_1, d.before a0 Z = true) (ws : List Jvm.Cond) (r0 : Addr) (mr : Addr) (I1 : Addr) (T1 : Addr) (F1 : Addr) (i2 : Addr) (t2 : Addr) (f2 : Addr) (kI : ClassId) (kT : ClassId) (kF : ClassId) (ki : ClassId) (kt : ClassId) (kf : ClassId) (h0 : Heap) (n0 : Nat) (Z0 : n0 ≤ h0.size) (M_ : Mir Z "[Ljava/lang/Object;" mr) (SL : own_Sl Z h0 r0 I1 T1 F1 i2 t2 f2 kI kT kF ki kt kf (16 : Int32) (32 : Int32)) (E_r0 : Exa Z h0 r0 "com/example/loopsmith/loopsmith/queue/Slots") (g_r0 : n0 ≤ r0) (g_I1 : n0 ≤ I1) (g_T1 : n0 ≤ T1) (g_F1 : n0 ≤ F1) (g_i2 : n0 ≤ i2) (g_t2 : n0 ≤ t2) (g_f2 : n0 ≤ f2) :
    MetFree l (⟨"com/example/loopsmith/loopsmith/queue/Slots", "growFirstBlock", "()V"⟩ : MethodName) (head1 (Jvm.Cond.code (⟨"com/example/loopsmith/loopsmith/queue/Slots", "growFirstBlock", "()V"⟩ : MethodName) prog_42_method_15_code 8 none :: ws) ({ frames := 3, cells := 3, slots := 160, locals := 46 } : Room)) (fun a U => a = #[(.ref r0)] ∧ Z.Warmed39 U.vm ∧ U.heap = h0) (fun _ _ _ _ _ => True) (fun _ U o U' => ∃ v L, o = .returned v ∧ Q7c16 Z r0 mr I1 T1 F1 i2 t2 f2 kI kT kF ki kt kf h0 n0 v U'.heap L ∧ FrameEnd U o U' L ({ frames := 3, cells := 3, slots := 160, locals := 46 } : Room).cells ({ frames := 3, cells := 3, slots := 160, locals := 46 } : Room).slots) := by
  refine MetFree.of_bodySF (plainFor_of_name pn4) hisR ?_
  intro p e s m args below meth c s₁ Bd hml0 hP hK
  obtain ⟨rfl, hZ, hh⟩ := hP
  have hx := Bd.exec
  have hby := Bd.bytes
  have hml : c.maxLocals = 8 := hml0
  have hown : s.vm.findClass "com/example/loopsmith/loopsmith/queue/Slots" = some m.cls := findClass_of_methodNamed Bd.named
  have hnm := (name_of_methodNamed Bd.named Bd.method).1
  have X0 : Stand p l e ({ frames := 3, cells := 3, slots := 160, locals := 46 } : Room) s m #[(.ref r0)] below meth c s₁ [] 0 0 := Stand.of_body Bd
  have e0 : s₁.heap = h0 := by rw [← hh, Bd.state]; rfl
  have N0 := Fr.nil n0
  have pre0 : ∀ t, Steps p.tables e below (s₁.setTop (mkF m 0 #[rv r0, .unset, .unset, .unset, .unset, .unset, .unset, .unset] [])) t → Steps p.tables e below (s₁.setTop (entryFrame m #[(.ref r0)] 8)) t := fun t k => castTop (ef_7c16 m r0) k
  obtain ⟨Sit0, Sti0, Sfl0, ⟨wb0, Sbl0⟩, Sca0, SeI10, SeT10, SeF10, Sei20, Set20, Sef20, SvI10, SvT10, SvF10, Svi20, Svt20, Svf20, SoI10, SoT10, SoF10, Soi20⟩ := id SL
  have pre1 : ∀ t, Steps p.tables e below (s₁.setTop (mkF m 1 #[rv r0, .unset, .unset, .unset, .unset, .unset, .unset, .unset] [(.ref r0)])) t → Steps p.tables e below (s₁.setTop (entryFrame m #[(.ref r0)] 8)) t := by
    intro t kt
    refine pre0 _ ?_
    show Steps p.tables e below (s₁.setTop (mkF m 0 #[rv r0, .unset, .unset, .unset, .unset, .unset, .unset, .unset] [])) _
    refine XS.aloadN X0.here hx rfl (hb hby d7_0) rfl rfl ?_
    exact kt
  obtain ⟨cq2, kq2, q2a, q2b, q2c⟩ := isOf hZ e0 E_r0
  obtain ⟨_, _, ⟨T2, L2, k2, n2⟩, -, X2, ⟨Lc2, hQ2, l2, y2, z2⟩, st2⟩ := X0.virtualBack hx (y := (⟨"com/example/loopsmith/loopsmith/queue/Slots", "grownCapacity", "()I"⟩ : MethodName)) (z := (⟨"com/example/loopsmith/loopsmith/queue/Slots", "grownCapacity", "()I"⟩ : MethodName)) hown (mvT hZ (hw _ (List.mem_of_getElem? (i := 50) rfl))) (mvT hZ (hw _ (List.mem_of_getElem? (i := 51) rfl))) (notFace_of_selects (args := #[]) (mvT hZ (hw _ (List.mem_of_getElem? (i := 53) rfl)))) (mvT hZ (hw _ (List.mem_of_getElem? (i := 53) rfl))) (mvT hZ (hw _ (List.mem_of_getElem? (i := 52) rfl))) (by decide) (backOf (W := 0) (rm8c16 l Z a0 hw [] r0 h0 n0 (Nat.le_trans Z0 (Keep.refl h0 [r0, I1, T1, F1]).1) Sca0) hZ (hw _ (List.mem_of_getElem? (i := 54) rfl)) (hw _ (List.mem_of_getElem? (i := 2) rfl)) (by decide) (by decide)) q2a q2c (g := (mkF m 1 #[rv r0, .unset, .unset, .unset, .unset, .unset, .unset, .unset] [(.ref r0)])) rfl (by rw [hml]; rfl) (Steps.refl _) (argsL := []) (rest := []) (lenOf pd5 rfl) rfl (by show 2 * 0 + _ ≤ _; exact Nat.le_of_eq rfl) (hb hby d7_1) (fun _ _ => ⟨rfl, e0, (by decide : 0 + 0 ≤ _), (by decide : 0 + 0 ≤ _)⟩)
  dsimp only [Pt.U, Pt.locs, Pt.cells, Pt.slots] at X2 l2 y2 z2 st2 hQ2
  subst l2 y2 z2
  obtain ⟨rfl, N2q, hh2⟩ := hQ2
  have N2 := Fr.app N0 N2q
  have pre3 : ∀ t, Steps p.tables e below (T2.setTop (mkF m 6 #[rv r0, iv (32 : Int32), .unset, .unset, .unset, .unset, .unset, .unset] [(.ref r0)])) t → Steps p.tables e below (s₁.setTop (entryFrame m #[(.ref r0)] 8)) t := by
    intro t kt
    refine pre1 _ ?_
    show Steps p.tables e below (s₁.setTop (mkF m 1 #[rv r0, .unset, .unset, .unset, .unset, .unset, .unset, .unset] [(.ref r0)])) _
    refine st2.trans ?_
    show Steps p.tables e below (T2.setTop (mkF m 4 #[rv r0, .unset, .unset, .unset, .unset, .unset, .unset, .unset] [(.int (32 : Int32))])) _
    refine XS.istoreN X2.here hx rfl (hb hby d7_4) rfl (l' := #[rv r0, iv (32 : Int32), .unset, .unset, .unset, .unset, .unset, .unset]) rfl ?_
    refine XS.aloadN X2.here hx rfl (hb hby d7_5) rfl rfl ?_
    exact kt
  obtain ⟨T4, X4, e4, st4⟩ := getF X2 hx hZ hown (host := "") (Or.inl (hw _ (List.mem_of_getElem? (i := 33) rfl))) Via.refl hh2 Sca0 (g := (mkF m 6 #[rv r0, iv (32 : Int32), .unset, .unset, .unset, .unset, .unset, .unset] [(.ref r0)])) rfl rfl (hb hby d7_6)
  have pre5 : ∀ t, Steps p.tables e below (T4.setTop (mkF m 22 #[rv r0, iv (32 : Int32), .unset, .unset, .unset, .unset, .unset, .unset] [(.ref r0)])) t → Steps p.tables e below (s₁.setTop (entryFrame m #[(.ref r0)] 8)) t := by
    intro t kt
    refine pre3 _ ?_
    show Steps p.tables e below (T2.setTop (mkF m 6 #[rv r0, iv (32 : Int32), .unset, .unset, .unset, .unset, .unset, .unset] [(.ref r0)])) _
    refine st4 _ ?_
    show Steps p.tables e below (T4.setTop (mkF m 9 #[rv r0, iv (32 : Int32), .unset, .unset, .unset, .unset, .unset, .unset] [(.int (16 : Int32))])) _
    refine XS.ifYes X4.here hx rfl (pc0 := 9) (pc' := 21) rfl (hb hby d7_9) rfl ((if0 _ _).trans (feq (by decide)).2) (by decide) (by decide) ?_
    refine XS.aloadN X4.here hx rfl (hb hby d7_21) rfl rfl ?_
    exact kt
  obtain ⟨T6, X6, e6, st6⟩ := getF X4 hx hZ hown (host := "") (Or.inl (hw _ (List.mem_of_getElem? (i := 11) rfl))) Via.refl e4 Sit0 (g := (mkF m 22 #[rv r0, iv (32 : Int32), .unset, .unset, .unset, .unset, .unset, .unset] [(.ref r0)])) rfl rfl (hb hby d7_22)
  obtain ⟨cl7, Ar7, q7, S7, M7, H7, G7⟩ := id SvI10
  have hin7 : ¬ ((0 : Int32) < 0 ∨ cl7.slots.size ≤ ((0 : Int32)).toNatClampNeg) := inb_of S7 ⟨by decide, by decide⟩
  have hat7 : cl7.slots[((0 : Int32)).toNatClampNeg]? = some (.ref i2) := H7.at hin7 rfl
  have pre8 : ∀ t, Steps p.tables e below (T6.setTop (mkF m 30 #[rv r0, iv (32 : Int32), .unset, .unset, .unset, .unset, .unset, .unset] [(.int (64 : Int32)), (.ref i2)])) t → Steps p.tables e below (s₁.setTop (entryFrame m #[(.ref r0)] 8)) t := by
    intro t kt
    refine pre5 _ ?_
    show Steps p.tables e below (T4.setTop (mkF m 22 #[rv r0, iv (32 : Int32), .unset, .unset, .unset, .unset, .unset, .unset] [(.ref r0)])) _
    refine st6 _ ?_
    show Steps p.tables e below (T6.setTop (mkF m 25 #[rv r0, iv (32 : Int32), .unset, .unset, .unset, .unset, .unset, .unset] [(.ref I1)])) _
    refine XS.iconst X6.here hx rfl (hb hby d7_25) ?_
    refine X6.aaload hx (j := (0 : Int32)) (v := (.ref i2)) (by rw [e6]; exact Ar7.1) (State.isArrayOf_alike hZ.alike Ar7.2.1) rfl Ar7.2.2 hin7 hat7 (g := (mkF m 26 #[rv r0, iv (32 : Int32), .unset, .unset, .unset, .unset, .unset, .unset] [(.int (0 : Int32)), (.ref I1)])) rfl rfl (hb hby d7_26) _ ?_
    show Steps p.tables e below (T6.setTop (mkF m 27 #[rv r0, iv (32 : Int32), .unset, .unset, .unset, .unset, .unset, .unset] [(.ref i2)])) _
    refine XS.iconst X6.here hx rfl (hb hby d7_27) ?_
    refine XS.iloadN X6.here hx rfl (hb hby d7_28) rfl ?_
    refine XS.imul X6.here hx rfl (hb hby d7_29) rfl ?_
    show Steps p.tables e below (T6.setTop (mkF m 30 #[rv r0, iv (32 : Int32), .unset, .unset, .unset, .unset, .unset, .unset] [(.int ((2 : Int32) * (32 : Int32))), (.ref i2)])) _
    rw [show ((2 : Int32) * (32 : Int32)) = (64 : Int32) from (by decide)]
    exact kt
  obtain ⟨_, _, ⟨T9, L9, k9, n9⟩, -, X9, ⟨Lc9, hQ9, l9, y9, z9⟩, st9⟩ := Jvm.LawKit.callS X6 hx (y := (⟨"java/util/Arrays", "copyOf", "([Ljava/lang/Object;I)[Ljava/lang/Object;"⟩ : MethodName)) hown (mvT hZ (hw _ (List.mem_of_getElem? (i := 64) rfl))) (mvT hZ (hw _ (List.mem_of_getElem? (i := 65) rfl))) (mvT hZ (hw _ (List.mem_of_getElem? (i := 66) rfl))) (mvT hZ (hw _ (List.mem_of_getElem? (i := 67) rfl))) (by decide) (backOf (W := 0) (rm9v32 l Z a0 hw [] i2 mr ki h0 n0 (Nat.le_trans Z0 (Keep.refl h0 [r0, I1, T1, F1]).1) M_ Svi20 Sei20) hZ (hw _ (List.mem_of_getElem? (i := 67) rfl)) (hw _ (List.mem_of_getElem? (i := 66) rfl)) (by decide) (by decide)) (g := (mkF m 30 #[rv r0, iv (32 : Int32), .unset, .unset, .unset, .unset, .unset, .unset] [(.int (64 : Int32)), (.ref i2)])) rfl (by rw [hml]; rfl) (argsL := [(.ref i2), (.int (64 : Int32))]) (rest := []) (lenOf pd7 rfl) rfl (by show 2 * 0 + _ ≤ _; exact Nat.le_of_eq rfl) (hb hby d7_30) (fun _ _ => ⟨rfl, e6, (by decide : 0 + 1 ≤ _), (by decide : 0 + 64 ≤ _)⟩)
  dsimp only [Pt.U, Pt.locs, Pt.cells, Pt.slots] at X9 l9 y9 z9 st9 hQ9
  subst l9 y9 z9
  obtain ⟨y9, ky9, rfl, N9q, Kc9, hy9, Vy9, Ey9, Oy9⟩ := hQ9
  have N9 := Fr.app N2 N9q
  have K9 : Keep h0 T9.heap [r0, I1, T1, F1] := (Keep.refl h0 [r0, I1, T1, F1]).trans Kc9 all0
  have g_y9 : n0 ≤ y9 := Nat.le_trans (Nat.le_trans Z0 (Keep.refl h0 [r0, I1, T1, F1]).1) hy9
  have sz_y9 : h0.size ≤ y9 := Nat.le_trans (Keep.refl h0 [r0, I1, T1, F1]).1 hy9
  have pre10 : ∀ t, Steps p.tables e below (T9.setTop (mkF m 35 #[rv r0, iv (32 : Int32), rv y9, .unset, .unset, .unset, .unset, .unset] [(.ref r0)])) t → Steps p.tables e below (s₁.setTop (entryFrame m #[(.ref r0)] 8)) t := by
    intro t kt
    refine pre8 _ ?_
    show Steps p.tables e below (T6.setTop (mkF m 30 #[rv r0, iv (32 : Int32), .unset, .unset, .unset, .unset, .unset, .unset] [(.int (64 : Int32)), (.ref i2)])) _
    refine st9 _ ?_
    show Steps p.tables e below (T9.setTop (mkF m 33 #[rv r0, iv (32 : Int32), .unset, .unset, .unset, .unset, .unset, .unset] [(.ref y9)])) _
    refine XS.astoreN X9.here hx rfl (hb hby d7_33) rfl rfl (l' := #[rv r0, iv (32 : Int32), rv y9, .unset, .unset, .unset, .unset, .unset]) rfl ?_
    refine XS.aloadN X9.here hx rfl (hb hby d7_34) rfl rfl ?_
    exact kt
  obtain ⟨T11, X11, e11, st11⟩ := getF X9 hx hZ hown (host := "") (Or.inl (hw _ (List.mem_of_getElem? (i := 33) rfl))) Via.refl rfl (Sca0.keep Kc9 nin0) (g := (mkF m 35 #[rv r0, iv (32 : Int32), rv y9, .unset, .unset, .unset, .unset, .unset] [(.ref r0)])) rfl rfl (hb hby d7_35)
  have pre12 : ∀ t, Steps p.tables e below (T11.setTop (mkF m 50 #[rv r0, iv (32 : Int32), rv y9, .unset, .unset, .unset, .unset, .unset] [(.ref r0)])) t → Steps p.tables e below (s₁.setTop (entryFrame m #[(.ref r0)] 8)) t := by
    intro t kt
    refine pre10 _ ?_
    show Steps p.tables e below (T9.setTop (mkF m 35 #[rv r0, iv (32 : Int32), rv y9, .unset, .unset, .unset, .unset, .unset] [(.ref r0)])) _
    refine st11 _ ?_
    show Steps p.tables e below (T11.setTop (mkF m 38 #[rv r0, iv (32 : Int32), rv y9, .unset, .unset, .unset, .unset, .unset] [(.int (16 : Int32))])) _
    refine XS.ifYes X11.here hx rfl (pc0 := 38) (pc' := 49) rfl (hb hby d7_38) rfl ((if0 _ _).trans (feq (by decide)).2) (by decide) (by decide) ?_
    refine XS.aloadN X11.here hx rfl (hb hby d7_49) rfl rfl ?_
    exact kt
  obtain ⟨T13, X13, e13, st13⟩ := getF X11 hx hZ hown (host := "") (Or.inl (hw _ (List.mem_of_getElem? (i := 15) rfl))) Via.refl e11 (Sti0.keep Kc9 nin0) (g := (mkF m 50 #[rv r0, iv (32 : Int32), rv y9, .unset, .unset, .unset, .unset, .unset] [(.ref r0)])) rfl rfl (hb hby d7_50)
  obtain ⟨cl14, Ar14, q14, S14, M14, H14, G14⟩ := id (SvT10.keep Kc9 nin0)
  have hin14 : ¬ ((0 : Int32) < 0 ∨ cl14.slots.size ≤ ((0 : Int32)).toNatClampNeg) := inb_of S14 ⟨by decide, by decide⟩
  have hat14 : cl14.slots[((0 : Int32)).toNatClampNeg]? = some (.ref t2) := H14.at hin14 rfl
  have pre15 : ∀ t, Steps p.tables e below (T13.setTop (mkF m 58 #[rv r0, iv (32 : Int32), rv y9, .unset, .unset, .unset, .unset, .unset] [(.int (64 : Int32)), (.ref t2)])) t → Steps p.tables e below (s₁.setTop (entryFrame m #[(.ref r0)] 8)) t := by
    intro t kt
    refine pre12 _ ?_
    show Steps p.tables e below (T11.setTop (mkF m 50 #[rv r0, iv (32 : Int32), rv y9, .unset, .unset, .unset, .unset, .unset] [(.ref r0)])) _
    refine st13 _ ?_
    show Steps p.tables e below (T13.setTop (mkF m 53 #[rv r0, iv (32 : Int32), rv y9, .unset, .unset, .unset, .unset, .unset] [(.ref T1)])) _
    refine XS.iconst X13.here hx rfl (hb hby d7_53) ?_
    refine X13.aaload hx (j := (0 : Int32)) (v := (.ref t2)) (by rw [e13]; exact Ar14.1) (State.isArrayOf_alike hZ.alike Ar14.2.1) rfl Ar14.2.2 hin14 hat14 (g := (mkF m 54 #[rv r0, iv (32 : Int32), rv y9, .unset, .unset, .unset, .unset, .unset] [(.int (0 : Int32)), (.ref T1)])) rfl rfl (hb hby d7_54) _ ?_
    show Steps p.tables e below (T13.setTop (mkF m 55 #[rv r0, iv (32 : Int32), rv y9, .unset, .unset, .unset, .unset, .unset] [(.ref t2)])) _
    refine XS.iconst X13.here hx rfl (hb hby d7_55) ?_
    refine XS.iloadN X13.here hx rfl (hb hby d7_56) rfl ?_
    refine XS.imul X13.here hx rfl (hb hby d7_57) rfl ?_
    show Steps p.tables e below (T13.setTop (mkF m 58 #[rv r0, iv (32 : Int32), rv y9, .unset, .unset, .unset, .unset, .unset] [(.int ((2 : Int32) * (32 : Int32))), (.ref t2)])) _
    rw [show ((2 : Int32) * (32 : Int32)) = (64 : Int32) from (by decide)]
    exact kt
  obtain ⟨_, _, ⟨T16, L16, k16, n16⟩, -, X16, ⟨Lc16, hQ16, l16, y16, z16⟩, st16⟩ := Jvm.LawKit.callS X13 hx (y := (⟨"java/util/Arrays", "copyOf", "([JI)[J"⟩ : MethodName)) hown (mvT hZ (hw _ (List.mem_of_getElem? (i := 86) rfl))) (mvT hZ (hw _ (List.mem_of_getElem? (i := 87) rfl))) (mvT hZ (hw _ (List.mem_of_getElem? (i := 66) rfl))) (mvT hZ (hw _ (List.mem_of_getElem? (i := 88) rfl))) (by decide) (backOf (W := 0) (rm12v32 l Z a0 hw [] t2 kt T9.heap n0 (Nat.le_trans Z0 K9.1) (Svt20.keep Kc9 nin0)) hZ (hw _ (List.mem_of_getElem? (i := 88) rfl)) (hw _ (List.mem_of_getElem? (i := 66) rfl)) (by decide) (by decide)) (g := (mkF m 58 #[rv r0, iv (32 : Int32), rv y9, .unset, .unset, .unset, .unset, .unset] [(.int (64 : Int32)), (.ref t2)])) rfl (by rw [hml]; rfl) (argsL := [(.ref t2), (.int (64 : Int32))]) (rest := []) (lenOf pd8 rfl) rfl (by show 2 * 0 + _ ≤ _; exact Nat.le_of_eq rfl) (hb hby d7_58) (fun _ _ => ⟨rfl, e13, (by decide : 1 + 1 ≤ _), (by decide : 64 + 64 ≤ _)⟩)
  dsimp only [Pt.U, Pt.locs, Pt.cells, Pt.slots] at X16 l16 y16 z16 st16 hQ16
  subst l16 y16 z16
  obtain ⟨y16, ky16, rfl, N16q, Kc16, hy16, Vy16, Ey16⟩ := hQ16
  have N16 := Fr.app N9 N16q
  have K16 : Keep h0 T16.heap [r0, I1, T1, F1] := K9.trans Kc16 all0
  have g_y16 : n0 ≤ y16 := Nat.le_trans (Nat.le_trans Z0 K9.1) hy16
  have sz_y16 : h0.size ≤ y16 := Nat.le_trans K9.1 hy16
  have pre17 : ∀ t, Steps p.tables e below (T16.setTop (mkF m 63 #[rv r0, iv (32 : Int32), rv y9, rv y16, .unset, .unset, .unset, .unset] [(.ref r0)])) t → Steps p.tables e below (s₁.setTop (entryFrame m #[(.ref r0)] 8)) t := by
    intro t kt
    refine pre15 _ ?_
    show Steps p.tables e below (T13.setTop (mkF m 58 #[rv r0, iv (32 : Int32), rv y9, .unset, .unset, .unset, .unset, .unset] [(.int (64 : Int32)), (.ref t2)])) _
    refine st16 _ ?_
    show Steps p.tables e below (T16.setTop (mkF m 61 #[rv r0, iv (32 : Int32), rv y9, .unset, .unset, .unset, .unset, .unset] [(.ref y16)])) _
    refine XS.astoreN X16.here hx rfl (hb hby d7_61) rfl rfl (l' := #[rv r0, iv (32 : Int32), rv y9, rv y16, .unset, .unset, .unset, .unset]) rfl ?_
    refine XS.aloadN X16.here hx rfl (hb hby d7_62) rfl rfl ?_
    exact kt
  obtain ⟨T18, X18, e18, st18⟩ := getF X16 hx hZ hown (host := "") (Or.inl (hw _ (List.mem_of_getElem? (i := 33) rfl))) Via.refl rfl ((Sca0.keep Kc9 nin0).keep Kc16 nin0) (g := (mkF m 63 #[rv r0, iv (32 : Int32), rv y9, rv y16, .unset, .unset, .unset, .unset] [(.ref r0)])) rfl rfl (hb hby d7_63)
  have pre19 : ∀ t, Steps p.tables e below (T18.setTop (mkF m 76 #[rv r0, iv (32 : Int32), rv y9, rv y16, .unset, .unset, .unset, .unset] [(.ref r0)])) t → Steps p.tables e below (s₁.setTop (entryFrame m #[(.ref r0)] 8)) t := by
    intro t kt
    refine pre17 _ ?_
    show Steps p.tables e below (T16.setTop (mkF m 63 #[rv r0, iv (32 : Int32), rv y9, rv y16, .unset, .unset, .unset, .unset] [(.ref r0)])) _
    refine st18 _ ?_
    show Steps p.tables e below (T18.setTop (mkF m 66 #[rv r0, iv (32 : Int32), rv y9, rv y16, .unset, .unset, .unset, .unset] [(.int (16 : Int32))])) _
    refine XS.ifYes X18.here hx rfl (pc0 := 66) (pc' := 75) rfl (hb hby d7_66) rfl ((if0 _ _).trans (feq (by decide)).2) (by decide) (by decide) ?_
    refine XS.aloadN X18.here hx rfl (hb hby d7_75) rfl rfl ?_
    exact kt
  obtain ⟨T20, X20, e20, st20⟩ := getF X18 hx hZ hown (host := "") (Or.inl (hw _ (List.mem_of_getElem? (i := 19) rfl))) Via.refl e18 ((Sfl0.keep Kc9 nin0).keep Kc16 nin0) (g := (mkF m 76 #[rv r0, iv (32 : Int32), rv y9, rv y16, .unset, .unset, .unset, .unset] [(.ref r0)])) rfl rfl (hb hby d7_76)
  obtain ⟨cl21, Ar21, q21, S21, M21, H21, G21⟩ := id ((SvF10.keep Kc9 nin0).keep Kc16 nin0)
  have hin21 : ¬ ((0 : Int32) < 0 ∨ cl21.slots.size ≤ ((0 : Int32)).toNatClampNeg) := inb_of S21 ⟨by decide, by decide⟩
  have hat21 : cl21.slots[((0 : Int32)).toNatClampNeg]? = some (.ref f2) := H21.at hin21 rfl
  have pre22 : ∀ t, Steps p.tables e below (T20.setTop (mkF m 82 #[rv r0, iv (32 : Int32), rv y9, rv y16, .unset, .unset, .unset, .unset] [(.int (32 : Int32)), (.ref f2)])) t → Steps p.tables e below (s₁.setTop (entryFrame m #[(.ref r0)] 8)) t := by
    intro t kt
    refine pre19 _ ?_
    show Steps p.tables e below (T18.setTop (mkF m 76 #[rv r0, iv (32 : Int32), rv y9, rv y16, .unset, .unset, .unset, .unset] [(.ref r0)])) _
    refine st20 _ ?_
    show Steps p.tables e below (T20.setTop (mkF m 79 #[rv r0, iv (32 : Int32), rv y9, rv y16, .unset, .unset, .unset, .unset] [(.ref F1)])) _
    refine XS.iconst X20.here hx rfl (hb hby d7_79) ?_
    refine X20.aaload hx (j := (0 : Int32)) (v := (.ref f2)) (by rw [e20]; exact Ar21.1) (State.isArrayOf_alike hZ.alike Ar21.2.1) rfl Ar21.2.2 hin21 hat21 (g := (mkF m 80 #[rv r0, iv (32 : Int32), rv y9, rv y16, .unset, .unset, .unset, .unset] [(.int (0 : Int32)), (.ref F1)])) rfl rfl (hb hby d7_80) _ ?_
    show Steps p.tables e below (T20.setTop (mkF m 81 #[rv r0, iv (32 : Int32), rv y9, rv y16, .unset, .unset, .unset, .unset] [(.ref f2)])) _
    refine XS.iloadN X20.here hx rfl (hb hby d7_81) rfl ?_
    exact kt
  obtain ⟨_, _, ⟨T23, L23, k23, n23⟩, -, X23, ⟨Lc23, hQ23, l23, y23, z23⟩, st23⟩ := Jvm.LawKit.callS X20 hx (y := (⟨"java/util/Arrays", "copyOf", "([BI)[B"⟩ : MethodName)) hown (mvT hZ (hw _ (List.mem_of_getElem? (i := 89) rfl))) (mvT hZ (hw _ (List.mem_of_getElem? (i := 90) rfl))) (mvT hZ (hw _ (List.mem_of_getElem? (i := 66) rfl))) (mvT hZ (hw _ (List.mem_of_getElem? (i := 91) rfl))) (by decide) (backOf (W := 0) (rm13v16 l Z a0 hw [] f2 kf T16.heap n0 (Nat.le_trans Z0 K16.1) ((Svf20.keep Kc9 nin0).keep Kc16 nin0)) hZ (hw _ (List.mem_of_getElem? (i := 91) rfl)) (hw _ (List.mem_of_getElem? (i := 66) rfl)) (by decide) (by decide)) (g := (mkF m 82 #[rv r0, iv (32 : Int32), rv y9, rv y16, .unset, .unset, .unset, .unset] [(.int (32 : Int32)), (.ref f2)])) rfl (by rw [hml]; rfl) (argsL := [(.ref f2), (.int (32 : Int32))]) (rest := []) (lenOf pd9 rfl) rfl (by show 2 * 0 + _ ≤ _; exact Nat.le_of_eq rfl) (hb hby d7_82) (fun _ _ => ⟨rfl, e20, (by decide : 2 + 1 ≤ _), (by decide : 128 + 32 ≤ _)⟩)
  dsimp only [Pt.U, Pt.locs, Pt.cells, Pt.slots] at X23 l23 y23 z23 st23 hQ23
  subst l23 y23 z23
  obtain ⟨y23, ky23, rfl, N23q, Kc23, hy23, Vy23, Ey23⟩ := hQ23
  have N23 := Fr.app N16 N23q
  have K23 : Keep h0 T23.heap [r0, I1, T1, F1] := K16.trans Kc23 all0
  have g_y23 : n0 ≤ y23 := Nat.le_trans (Nat.le_trans Z0 K16.1) hy23
  have sz_y23 : h0.size ≤ y23 := Nat.le_trans K16.1 hy23
  have pre24 : ∀ t, Steps p.tables e below (T23.setTop (mkF m 88 #[rv r0, iv (32 : Int32), rv y9, rv y16, rv y23, .unset, .unset, .unset] [(.ref r0)])) t → Steps p.tables e below (s₁.setTop (entryFrame m #[(.ref r0)] 8)) t := by
    intro t kt
    refine pre22 _ ?_
    show Steps p.tables e below (T20.setTop (mkF m 82 #[rv r0, iv (32 : Int32), rv y9, rv y16, .unset, .unset, .unset, .unset] [(.int (32 : Int32)), (.ref f2)])) _
    refine st23 _ ?_
    show Steps p.tables e below (T23.setTop (mkF m 85 #[rv r0, iv (32 : Int32), rv y9, rv y16, .unset, .unset, .unset, .unset] [(.ref y23)])) _
    refine XS.astore X23.here hx rfl (hb hby d7_85) rfl rfl (l' := #[rv r0, iv (32 : Int32), rv y9, rv y16, rv y23, .unset, .unset, .unset]) rfl ?_
    refine XS.aloadN X23.here hx rfl (hb hby d7_87) rfl rfl ?_
    exact kt
  obtain ⟨T25, X25, e25, st25⟩ := getF X23 hx hZ hown (host := "") (Or.inl (hw _ (List.mem_of_getElem? (i := 33) rfl))) Via.refl rfl (((Sca0.keep Kc9 nin0).keep Kc16 nin0).keep Kc23 nin0) (g := (mkF m 88 #[rv r0, iv (32 : Int32), rv y9, rv y16, rv y23, .unset, .unset, .unset] [(.ref r0)])) rfl rfl (hb hby d7_88)
  have pre26 : ∀ t, Steps p.tables e below (T25.setTop (mkF m 102 #[rv r0, iv (32 : Int32), rv y9, rv y16, rv y23, .unset, .unset, .unset] [(.ref r0)])) t → Steps p.tables e below (s₁.setTop (entryFrame m #[(.ref r0)] 8)) t := by
    intro t kt
    refine pre24 _ ?_
    show Steps p.tables e below (T23.setTop (mkF m 88 #[rv r0, iv (32 : Int32), rv y9, rv y16, rv y23, .unset, .unset, .unset] [(.ref r0)])) _
    refine st25 _ ?_
    show Steps p.tables e below (T25.setTop (mkF m 91 #[rv r0, iv (32 : Int32), rv y9, rv y16, rv y23, .unset, .unset, .unset] [(.int (16 : Int32))])) _
    refine XS.ifYes X25.here hx rfl (pc0 := 91) (pc' := 101) rfl (hb hby d7_91) rfl ((if0 _ _).trans (feq (by decide)).2) (by decide) (by decide) ?_
    refine XS.aloadN X25.here hx rfl (hb hby d7_101) rfl rfl ?_
    exact kt
  obtain ⟨T27, X27, e27, st27⟩ := getF X25 hx hZ hown (host := "") (Or.inl (hw _ (List.mem_of_getElem? (i := 11) rfl))) Via.refl e25 (((Sit0.keep Kc9 nin0).keep Kc16 nin0).keep Kc23 nin0) (g := (mkF m 102 #[rv r0, iv (32 : Int32), rv y9, rv y16, rv y23, .unset, .unset, .unset] [(.ref r0)])) rfl rfl (hb hby d7_102)
  have pre28 : ∀ t, Steps p.tables e below (T27.setTop (mkF m 108 #[rv r0, iv (32 : Int32), rv y9, rv y16, rv y23, rv I1, .unset, .unset] [(.ref r0)])) t → Steps p.tables e below (s₁.setTop (entryFrame m #[(.ref r0)] 8)) t := by
    intro t kt
    refine pre26 _ ?_
    show Steps p.tables e below (T25.setTop (mkF m 102 #[rv r0, iv (32 : Int32), rv y9, rv y16, rv y23, .unset, .unset, .unset] [(.ref r0)])) _
    refine st27 _ ?_
    show Steps p.tables e below (T27.setTop (mkF m 105 #[rv r0, iv (32 : Int32), rv y9, rv y16, rv y23, .unset, .unset, .unset] [(.ref I1)])) _
    refine XS.astore X27.here hx rfl (hb hby d7_105) rfl rfl (l' := #[rv r0, iv (32 : Int32), rv y9, rv y16, rv y23, rv I1, .unset, .unset]) rfl ?_
    refine XS.aloadN X27.here hx rfl (hb hby d7_107) rfl rfl ?_
    exact kt
  obtain ⟨T29, X29, e29, st29⟩ := getF X27 hx hZ hown (host := "") (Or.inl (hw _ (List.mem_of_getElem? (i := 33) rfl))) Via.refl e27 (((Sca0.keep Kc9 nin0).keep Kc16 nin0).keep Kc23 nin0) (g := (mkF m 108 #[rv r0, iv (32 : Int32), rv y9, rv y16, rv y23, rv I1, .unset, .unset] [(.ref r0)])) rfl rfl (hb hby d7_108)
  have pre30 : ∀ t, Steps p.tables e below (T29.setTop (mkF m 122 #[rv r0, iv (32 : Int32), rv y9, rv y16, rv y23, rv I1, .unset, .unset] [(.ref r0)])) t → Steps p.tables e below (s₁.setTop (entryFrame m #[(.ref r0)] 8)) t := by
    intro t kt
    refine pre28 _ ?_
    show Steps p.tables e below (T27.setTop (mkF m 108 #[rv r0, iv (32 : Int32), rv y9, rv y16, rv y23, rv I1, .unset, .unset] [(.ref r0)])) _
    refine st29 _ ?_
    show Steps p.tables e below (T29.setTop (mkF m 111 #[rv r0, iv (32 : Int32), rv y9, rv y16, rv y23, rv I1, .unset, .unset] [(.int (16 : Int32))])) _
    refine XS.ifYes X29.here hx rfl (pc0 := 111) (pc' := 121) rfl (hb hby d7_111) rfl ((if0 _ _).trans (feq (by decide)).2) (by decide) (by decide) ?_
    refine XS.aloadN X29.here hx rfl (hb hby d7_121) rfl rfl ?_
    exact kt
  obtain ⟨T31, X31, e31, st31⟩ := getF X29 hx hZ hown (host := "") (Or.inl (hw _ (List.mem_of_getElem? (i := 15) rfl))) Via.refl e29 (((Sti0.keep Kc9 nin0).keep Kc16 nin0).keep Kc23 nin0) (g := (mkF m 122 #[rv r0, iv (32 : Int32), rv y9, rv y16, rv y23, rv I1, .unset, .unset] [(.ref r0)])) rfl rfl (hb hby d7_122)
  have pre32 : ∀ t, Steps p.tables e below (T31.setTop (mkF m 128 #[rv r0, iv (32 : Int32), rv y9, rv y16, rv y23, rv I1, rv T1, .unset] [(.ref r0)])) t → Steps p.tables e below (s₁.setTop (entryFrame m #[(.ref r0)] 8)) t := by
    intro t kt
    refine pre30 _ ?_
    show Steps p.tables e below (T29.setTop (mkF m 122 #[rv r0, iv (32 : Int32), rv y9, rv y16, rv y23, rv I1, .unset, .unset] [(.ref r0)])) _
    refine st31 _ ?_
    show Steps p.tables e below (T31.setTop (mkF m 125 #[rv r0, iv (32 : Int32), rv y9, rv y16, rv y23, rv I1, .unset, .unset] [(.ref T1)])) _
    refine XS.astore X31.here hx rfl (hb hby d7_125) rfl rfl (l' := #[rv r0, iv (32 : Int32), rv y9, rv y16, rv y23, rv I1, rv T1, .unset]) rfl ?_
    refine XS.aloadN X31.here hx rfl (hb hby d7_127) rfl rfl ?_
    exact kt
  obtain ⟨T33, X33, e33, st33⟩ := getF X31 hx hZ hown (host := "") (Or.inl (hw _ (List.mem_of_getElem? (i := 33) rfl))) Via.refl e31 (((Sca0.keep Kc9 nin0).keep Kc16 nin0).keep Kc23 nin0) (g := (mkF m 128 #[rv r0, iv (32 : Int32), rv y9, rv y16, rv y23, rv I1, rv T1, .unset] [(.ref r0)])) rfl rfl (hb hby d7_128)
  have pre34 : ∀ t, Steps p.tables e below (T33.setTop (mkF m 142 #[rv r0, iv (32 : Int32), rv y9, rv y16, rv y23, rv I1, rv T1, .unset] [(.ref r0)])) t → Steps p.tables e below (s₁.setTop (entryFrame m #[(.ref r0)] 8)) t := by
    intro t kt
    refine pre32 _ ?_
    show Steps p.tables e below (T31.setTop (mkF m 128 #[rv r0, iv (32 : Int32), rv y9, rv y16, rv y23, rv I1, rv T1, .unset] [(.ref r0)])) _
    refine st33 _ ?_
    show Steps p.tables e below (T33.setTop (mkF m 131 #[rv r0, iv (32 : Int32), rv y9, rv y16, rv y23, rv I1, rv T1, .unset] [(.int (16 : Int32))])) _
    refine XS.ifYes X33.here hx rfl (pc0 := 131) (pc' := 141) rfl (hb hby d7_131) rfl ((if0 _ _).trans (feq (by decide)).2) (by decide) (by decide) ?_
    refine XS.aloadN X33.here hx rfl (hb hby d7_141) rfl rfl ?_
    exact kt
  obtain ⟨T35, X35, e35, st35⟩ := getF X33 hx hZ hown (host := "") (Or.inl (hw _ (List.mem_of_getElem? (i := 19) rfl))) Via.refl e33 (((Sfl0.keep Kc9 nin0).keep Kc16 nin0).keep Kc23 nin0) (g := (mkF m 142 #[rv r0, iv (32 : Int32), rv y9, rv y16, rv y23, rv I1, rv T1, .unset] [(.ref r0)])) rfl rfl (hb hby d7_142)
  have pre36 : ∀ t, Steps p.tables e below (T35.setTop (mkF m 151 #[rv r0, iv (32 : Int32), rv y9, rv y16, rv y23, rv I1, rv T1, rv F1] [(.ref y9), (.int (0 : Int32)), (.ref I1)])) t → Steps p.tables e below (s₁.setTop (entryFrame m #[(.ref r0)] 8)) t := by
    intro t kt
    refine pre34 _ ?_
    show Steps p.tables e below (T33.setTop (mkF m 142 #[rv r0, iv (32 : Int32), rv y9, rv y16, rv y23, rv I1, rv T1, .unset] [(.ref r0)])) _
    refine st35 _ ?_
    show Steps p.tables e below (T35.setTop (mkF m 145 #[rv r0, iv (32 : Int32), rv y9, rv y16, rv y23, rv I1, rv T1, .unset] [(.ref F1)])) _
    refine XS.astore X35.here hx rfl (hb hby d7_145) rfl rfl (l' := #[rv r0, iv (32 : Int32), rv y9, rv y16, rv y23, rv I1, rv T1, rv F1]) rfl ?_
    refine XS.aload X35.here hx rfl (hb hby d7_147) rfl rfl ?_
    refine XS.iconst X35.here hx rfl (hb hby d7_149) ?_
    refine XS.aloadN X35.here hx rfl (hb hby d7_150) rfl rfl ?_
    exact kt
  obtain ⟨cl37, Ar37, q37, S37, M37, H37, G37⟩ := id (((SvI10.keep Kc9 nin0).keep Kc16 nin0).keep Kc23 nin0)
  have hin37 : ¬ ((0 : Int32) < 0 ∨ cl37.slots.size ≤ ((0 : Int32)).toNatClampNeg) := inb_of S37 ⟨by decide, by decide⟩
  obtain ⟨T37, h37, X37, e37, W37, st37⟩ := stR X35 hx hZ e35 Ar37 (j := (0 : Int32)) hin37 rfl (Sto.ofVA Ar37 q37 SoI10 (Ins.self ((Ey9.keep Kc16).keep Kc23))) (g := (mkF m 151 #[rv r0, iv (32 : Int32), rv y9, rv y16, rv y23, rv I1, rv T1, rv F1] [(.ref y9), (.int (0 : Int32)), (.ref I1)])) rfl rfl (hb hby d7_151)
  have V37 : Arv Z h37 I1 kI (.array (.object "java/lang/Object")) (1 : Int32) [(.ref y9)] .null := Arv.set Ar37 q37 S37 M37 H37 G37 rfl W37 0 rfl (Nat.le_of_ble_eq_true rfl)
  have K37 : Keep h0 h37 [r0, I1, T1, F1] := K23.wr W37 (Or.inl (List.mem_of_getElem? (i := 1) rfl))
  have N37 := Fr.snoc X37 N23 g_I1
  have pre38 : ∀ t, Steps p.tables e below (T37.setTop (mkF m 156 #[rv r0, iv (32 : Int32), rv y9, rv y16, rv y23, rv I1, rv T1, rv F1] [(.ref y16), (.int (0 : Int32)), (.ref T1)])) t → Steps p.tables e below (s₁.setTop (entryFrame m #[(.ref r0)] 8)) t := by
    intro t kt
    refine pre36 _ ?_
    show Steps p.tables e below (T35.setTop (mkF m 151 #[rv r0, iv (32 : Int32), rv y9, rv y16, rv y23, rv I1, rv T1, rv F1] [(.ref y9), (.int (0 : Int32)), (.ref I1)])) _
    refine st37 _ ?_
    show Steps p.tables e below (T37.setTop (mkF m 152 #[rv r0, iv (32 : Int32), rv y9, rv y16, rv y23, rv I1, rv T1, rv F1] [])) _
    refine XS.aload X37.here hx rfl (hb hby d7_152) rfl rfl ?_
    refine XS.iconst X37.here hx rfl (hb hby d7_154) ?_
    refine XS.aloadN X37.here hx rfl (hb hby d7_155) rfl rfl ?_
    exact kt
  obtain ⟨cl39, Ar39, q39, S39, M39, H39, G39⟩ := id ((((SvT10.keep Kc9 nin0).keep Kc16 nin0).keep Kc23 nin0).other W37 (Exa.ne ((((SeT10.keep Kc9).keep Kc16).keep Kc23).wr W37) ((((SeI10.keep Kc9).keep Kc16).keep Kc23).wr W37) (by decide)))
  have hin39 : ¬ ((0 : Int32) < 0 ∨ cl39.slots.size ≤ ((0 : Int32)).toNatClampNeg) := inb_of S39 ⟨by decide, by decide⟩
  obtain ⟨T39, h39, X39, e39, W39, st39⟩ := stR X37 hx hZ e37 Ar39 (j := (0 : Int32)) hin39 rfl (Sto.ofVA Ar39 q39 SoT10 (Ins.self ((Ey16.keep Kc23).wr W37))) (g := (mkF m 156 #[rv r0, iv (32 : Int32), rv y9, rv y16, rv y23, rv I1, rv T1, rv F1] [(.ref y16), (.int (0 : Int32)), (.ref T1)])) rfl rfl (hb hby d7_156)
  have V39 : Arv Z h39 T1 kT (.array .long) (1 : Int32) [(.ref y16)] .null := Arv.set Ar39 q39 S39 M39 H39 G39 rfl W39 0 rfl (Nat.le_of_ble_eq_true rfl)
  have K39 : Keep h0 h39 [r0, I1, T1, F1] := K37.wr W39 (Or.inl (List.mem_of_getElem? (i := 2) rfl))
  have N39 := Fr.snoc X39 N37 g_T1
  have pre40 : ∀ t, Steps p.tables e below (T39.setTop (mkF m 162 #[rv r0, iv (32 : Int32), rv y9, rv y16, rv y23, rv I1, rv T1, rv F1] [(.ref y23), (.int (0 : Int32)), (.ref F1)])) t → Steps p.tables e below (s₁.setTop (entryFrame m #[(.ref r0)] 8)) t := by
    intro t kt
    refine pre38 _ ?_
    show Steps p.tables e below (T37.setTop (mkF m 156 #[rv r0, iv (32 : Int32), rv y9, rv y16, rv y23, rv I1, rv T1, rv F1] [(.ref y16), (.int (0 : Int32)), (.ref T1)])) _
    refine st39 _ ?_
    show Steps p.tables e below (T39.setTop (mkF m 157 #[rv r0, iv (32 : Int32), rv y9, rv y16, rv y23, rv I1, rv T1, rv F1] [])) _
    refine XS.aload X39.here hx rfl (hb hby d7_157) rfl rfl ?_
    refine XS.iconst X39.here hx rfl (hb hby d7_159) ?_
    refine XS.aload X39.here hx rfl (hb hby d7_160) rfl rfl ?_
    exact kt
  obtain ⟨cl41, Ar41, q41, S41, M41, H41, G41⟩ := id (((((SvF10.keep Kc9 nin0).keep Kc16 nin0).keep Kc23 nin0).other W37 (Exa.ne (((((SeF10.keep Kc9).keep Kc16).keep Kc23).wr W37).wr W39) (((((SeI10.keep Kc9).keep Kc16).keep Kc23).wr W37).wr W39) (by decide))).other W39 (Exa.ne (((((SeF10.keep Kc9).keep Kc16).keep Kc23).wr W37).wr W39) (((((SeT10.keep Kc9).keep Kc16).keep Kc23).wr W37).wr W39) (by decide)))
  have hin41 : ¬ ((0 : Int32) < 0 ∨ cl41.slots.size ≤ ((0 : Int32)).toNatClampNeg) := inb_of S41 ⟨by decide, by decide⟩
  obtain ⟨T41, h41, X41, e41, W41, st41⟩ := stR X39 hx hZ e39 Ar41 (j := (0 : Int32)) hin41 rfl (Sto.ofVA Ar41 q41 SoF10 (Ins.self ((Ey23.wr W37).wr W39))) (g := (mkF m 162 #[rv r0, iv (32 : Int32), rv y9, rv y16, rv y23, rv I1, rv T1, rv F1] [(.ref y23), (.int (0 : Int32)), (.ref F1)])) rfl rfl (hb hby d7_162)
  have V41 : Arv Z h41 F1 kF (.array .byte) (1 : Int32) [(.ref y23)] .null := Arv.set Ar41 q41 S41 M41 H41 G41 rfl W41 0 rfl (Nat.le_of_ble_eq_true rfl)
  have K41 : Keep h0 h41 [r0, I1, T1, F1] := K39.wr W41 (Or.inl (List.mem_of_getElem? (i := 3) rfl))
  have N41 := Fr.snoc X41 N39 g_F1
  have pre42 : ∀ t, Steps p.tables e below (T41.setTop (mkF m 166 #[rv r0, iv (32 : Int32), rv y9, rv y16, rv y23, rv I1, rv T1, rv F1] [(.ref I1), (.ref r0)])) t → Steps p.tables e below (s₁.setTop (entryFrame m #[(.ref r0)] 8)) t := by
    intro t kt
    refine pre40 _ ?_
    show Steps p.tables e below (T39.setTop (mkF m 162 #[rv r0, iv (32 : Int32), rv y9, rv y16, rv y23, rv I1, rv T1, rv F1] [(.ref y23), (.int (0 : Int32)), (.ref F1)])) _
    refine st41 _ ?_
    show Steps p.tables e below (T41.setTop (mkF m 163 #[rv r0, iv (32 : Int32), rv y9, rv y16, rv y23, rv I1, rv T1, rv F1] [])) _
    refine XS.aloadN X41.here hx rfl (hb hby d7_163) rfl rfl ?_
    refine XS.aload X41.here hx rfl (hb hby d7_164) rfl rfl ?_
    exact kt
  obtain ⟨T43, h43, X43, e43, W43, st43⟩ := putF X41 hx hZ hown (host := "") (Or.inl (hw _ (List.mem_of_getElem? (i := 11) rfl))) Via.refl e41 ((((((Sit0.keep Kc9 nin0).keep Kc16 nin0).keep Kc23 nin0).other W37 (Or.inl (Exa.ne ((((((E_r0.keep Kc9).keep Kc16).keep Kc23).wr W37).wr W39).wr W41) ((((((SeI10.keep Kc9).keep Kc16).keep Kc23).wr W37).wr W39).wr W41) (by decide)))).other W39 (Or.inl (Exa.ne ((((((E_r0.keep Kc9).keep Kc16).keep Kc23).wr W37).wr W39).wr W41) ((((((SeT10.keep Kc9).keep Kc16).keep Kc23).wr W37).wr W39).wr W41) (by decide)))).other W41 (Or.inl (Exa.ne ((((((E_r0.keep Kc9).keep Kc16).keep Kc23).wr W37).wr W39).wr W41) ((((((SeF10.keep Kc9).keep Kc16).keep Kc23).wr W37).wr W39).wr W41) (by decide)))) ((((((E_r0.keep Kc9).keep Kc16).keep Kc23).wr W37).wr W39).wr W41) (Or.inl (hw _ (List.mem_of_getElem? (i := 12) rfl))) (hw _ (List.mem_of_getElem? (i := 1) rfl)) (ty := (.array (.array (.object "java/lang/Object")))) (by decide) rfl rfl (g := (mkF m 166 #[rv r0, iv (32 : Int32), rv y9, rv y16, rv y23, rv I1, rv T1, rv F1] [(.ref I1), (.ref r0)])) rfl rfl (hb hby d7_166)
  have Fw43 : Fld Z h43 r0 "com/example/loopsmith/loopsmith/queue/Slots" "items" "[[Ljava/lang/Object;" (.ref I1) := ((((((Sit0.keep Kc9 nin0).keep Kc16 nin0).keep Kc23 nin0).other W37 (Or.inl (Exa.ne ((((((E_r0.keep Kc9).keep Kc16).keep Kc23).wr W37).wr W39).wr W41) ((((((SeI10.keep Kc9).keep Kc16).keep Kc23).wr W37).wr W39).wr W41) (by decide)))).other W39 (Or.inl (Exa.ne ((((((E_r0.keep Kc9).keep Kc16).keep Kc23).wr W37).wr W39).wr W41) ((((((SeT10.keep Kc9).keep Kc16).keep Kc23).wr W37).wr W39).wr W41) (by decide)))).other W41 (Or.inl (Exa.ne ((((((E_r0.keep Kc9).keep Kc16).keep Kc23).wr W37).wr W39).wr W41) ((((((SeF10.keep Kc9).keep Kc16).keep Kc23).wr W37).wr W39).wr W41) (by decide)))).same W43
  have K43 : Keep h0 h43 [r0, I1, T1, F1] := K41.wr W43 (Or.inl (List.mem_of_getElem? (i := 0) rfl))
  have N43 := Fr.snoc X43 N41 g_r0
  have pre44 : ∀ t, Steps p.tables e below (T43.setTop (mkF m 172 #[rv r0, iv (32 : Int32), rv y9, rv y16, rv y23, rv I1, rv T1, rv F1] [(.ref T1), (.ref r0)])) t → Steps p.tables e below (s₁.setTop (entryFrame m #[(.ref r0)] 8)) t := by
    intro t kt
    refine pre42 _ ?_
    show Steps p.tables e below (T41.setTop (mkF m 166 #[rv r0, iv (32 : Int32), rv y9, rv y16, rv y23, rv I1, rv T1, rv F1] [(.ref I1), (.ref r0)])) _
    refine st43 _ ?_
    show Steps p.tables e below (T43.setTop (mkF m 169 #[rv r0, iv (32 : Int32), rv y9, rv y16, rv y23, rv I1, rv T1, rv F1] [])) _
    refine XS.aloadN X43.here hx rfl (hb hby d7_169) rfl rfl ?_
    refine XS.aload X43.here hx rfl (hb hby d7_170) rfl rfl ?_
    exact kt
  obtain ⟨T45, h45, X45, e45, W45, st45⟩ := putF X43 hx hZ hown (host := "") (Or.inl (hw _ (List.mem_of_getElem? (i := 15) rfl))) Via.refl e43 (((((((Sti0.keep Kc9 nin0).keep Kc16 nin0).keep Kc23 nin0).other W37 (Or.inl (Exa.ne (((((((E_r0.keep Kc9).keep Kc16).keep Kc23).wr W37).wr W39).wr W41).wr W43) (((((((SeI10.keep Kc9).keep Kc16).keep Kc23).wr W37).wr W39).wr W41).wr W43) (by decide)))).other W39 (Or.inl (Exa.ne (((((((E_r0.keep Kc9).keep Kc16).keep Kc23).wr W37).wr W39).wr W41).wr W43) (((((((SeT10.keep Kc9).keep Kc16).keep Kc23).wr W37).wr W39).wr W41).wr W43) (by decide)))).other W41 (Or.inl (Exa.ne (((((((E_r0.keep Kc9).keep Kc16).keep Kc23).wr W37).wr W39).wr W41).wr W43) (((((((SeF10.keep Kc9).keep Kc16).keep Kc23).wr W37).wr W39).wr W41).wr W43) (by decide)))).other W43 (Or.inr (slot_ne (Or.inl (hw _ (List.mem_of_getElem? (i := 16) rfl))) (Or.inl (hw _ (List.mem_of_getElem? (i := 12) rfl))) (by decide) (t := (.array (.array .long))) (t' := (.array (.array (.object "java/lang/Object")))) (by decide) (by decide)))) (((((((E_r0.keep Kc9).keep Kc16).keep Kc23).wr W37).wr W39).wr W41).wr W43) (Or.inl (hw _ (List.mem_of_getElem? (i := 16) rfl))) (hw _ (List.mem_of_getElem? (i := 1) rfl)) (ty := (.array (.array .long))) (by decide) rfl rfl (g := (mkF m 172 #[rv r0, iv (32 : Int32), rv y9, rv y16, rv y23, rv I1, rv T1, rv F1] [(.ref T1), (.ref r0)])) rfl rfl (hb hby d7_172)
  have Fw45 : Fld Z h45 r0 "com/example/loopsmith/loopsmith/queue/Slots" "times" "[[J" (.ref T1) := (((((((Sti0.keep Kc9 nin0).keep Kc16 nin0).keep Kc23 nin0).other W37 (Or.inl (Exa.ne (((((((E_r0.keep Kc9).keep Kc16).keep Kc23).wr W37).wr W39).wr W41).wr W43) (((((((SeI10.keep Kc9).keep Kc16).keep Kc23).wr W37).wr W39).wr W41).wr W43) (by decide)))).other W39 (Or.inl (Exa.ne (((((((E_r0.keep Kc9).keep Kc16).keep Kc23).wr W37).wr W39).wr W41).wr W43) (((((((SeT10.keep Kc9).keep Kc16).keep Kc23).wr W37).wr W39).wr W41).wr W43) (by decide)))).other W41 (Or.inl (Exa.ne (((((((E_r0.keep Kc9).keep Kc16).keep Kc23).wr W37).wr W39).wr W41).wr W43) (((((((SeF10.keep Kc9).keep Kc16).keep Kc23).wr W37).wr W39).wr W41).wr W43) (by decide)))).other W43 (Or.inr (slot_ne (Or.inl (hw _ (List.mem_of_getElem? (i := 16) rfl))) (Or.inl (hw _ (List.mem_of_getElem? (i := 12) rfl))) (by decide) (t := (.array (.array .long))) (t' := (.array (.array (.object "java/lang/Object")))) (by decide) (by decide)))).same W45
  have K45 : Keep h0 h45 [r0, I1, T1, F1] := K43.wr W45 (Or.inl (List.mem_of_getElem? (i := 0) rfl))
  have N45 := Fr.snoc X45 N43 g_r0
  have pre46 : ∀ t, Steps p.tables e below (T45.setTop (mkF m 178 #[rv r0, iv (32 : Int32), rv y9, rv y16, rv y23, rv I1, rv T1, rv F1] [(.ref F1), (.ref r0)])) t → Steps p.tables e below (s₁.setTop (entryFrame m #[(.ref r0)] 8)) t := by
    intro t kt
    refine pre44 _ ?_
    show Steps p.tables e below (T43.setTop (mkF m 172 #[rv r0, iv (32 : Int32), rv y9, rv y16, rv y23, rv I1, rv T1, rv F1] [(.ref T1), (.ref r0)])) _
    refine st45 _ ?_
    show Steps p.tables e below (T45.setTop (mkF m 175 #[rv r0, iv (32 : Int32), rv y9, rv y16, rv y23, rv I1, rv T1, rv F1] [])) _
    refine XS.aloadN X45.here hx rfl (hb hby d7_175) rfl rfl ?_
    refine XS.aload X45.here hx rfl (hb hby d7_176) rfl rfl ?_
    exact kt
  obtain ⟨T47, h47, X47, e47, W47, st47⟩ := putF X45 hx hZ hown (host := "") (Or.inl (hw _ (List.mem_of_getElem? (i := 19) rfl))) Via.refl e45 ((((((((Sfl0.keep Kc9 nin0).keep Kc16 nin0).keep Kc23 nin0).other W37 (Or.inl (Exa.ne ((((((((E_r0.keep Kc9).keep Kc16).keep Kc23).wr W37).wr W39).wr W41).wr W43).wr W45) ((((((((SeI10.keep Kc9).keep Kc16).keep Kc23).wr W37).wr W39).wr W41).wr W43).wr W45) (by decide)))).other W39 (Or.inl (Exa.ne ((((((((E_r0.keep Kc9).keep Kc16).keep Kc23).wr W37).wr W39).wr W41).wr W43).wr W45) ((((((((SeT10.keep Kc9).keep Kc16).keep Kc23).wr W37).wr W39).wr W41).wr W43).wr W45) (by decide)))).other W41 (Or.inl (Exa.ne ((((((((E_r0.keep Kc9).keep Kc16).keep Kc23).wr W37).wr W39).wr W41).wr W43).wr W45) ((((((((SeF10.keep Kc9).keep Kc16).keep Kc23).wr W37).wr W39).wr W41).wr W43).wr W45) (by decide)))).other W43 (Or.inr (slot_ne (Or.inl (hw _ (List.mem_of_getElem? (i := 20) rfl))) (Or.inl (hw _ (List.mem_of_getElem? (i := 12) rfl))) (by decide) (t := (.array (.array .byte))) (t' := (.array (.array (.object "java/lang/Object")))) (by decide) (by decide)))).other W45 (Or.inr (slot_ne (Or.inl (hw _ (List.mem_of_getElem? (i := 20) rfl))) (Or.inl (hw _ (List.mem_of_getElem? (i := 16) rfl))) (by decide) (t := (.array (.array .byte))) (t' := (.array (.array .long))) (by decide) (by decide)))) ((((((((E_r0.keep Kc9).keep Kc16).keep Kc23).wr W37).wr W39).wr W41).wr W43).wr W45) (Or.inl (hw _ (List.mem_of_getElem? (i := 20) rfl))) (hw _ (List.mem_of_getElem? (i := 1) rfl)) (ty := (.array (.array .byte))) (by decide) rfl rfl (g := (mkF m 178 #[rv r0, iv (32 : Int32), rv y9, rv y16, rv y23, rv I1, rv T1, rv F1] [(.ref F1), (.ref r0)])) rfl rfl (hb hby d7_178)
  have Fw47 : Fld Z h47 r0 "com/example/loopsmith/loopsmith/queue/Slots" "flags" "[[B" (.ref F1) := ((((((((Sfl0.keep Kc9 nin0).keep Kc16 nin0).keep Kc23 nin0).other W37 (Or.inl (Exa.ne ((((((((E_r0.keep Kc9).keep Kc16).keep Kc23).wr W37).wr W39).wr W41).wr W43).wr W45) ((((((((SeI10.keep Kc9).keep Kc16).keep Kc23).wr W37).wr W39).wr W41).wr W43).wr W45) (by decide)))).other W39 (Or.inl (Exa.ne ((((((((E_r0.keep Kc9).keep Kc16).keep Kc23).wr W37).wr W39).wr W41).wr W43).wr W45) ((((((((SeT10.keep Kc9).keep Kc16).keep Kc23).wr W37).wr W39).wr W41).wr W43).wr W45) (by decide)))).other W41 (Or.inl (Exa.ne ((((((((E_r0.keep Kc9).keep Kc16).keep Kc23).wr W37).wr W39).wr W41).wr W43).wr W45) ((((((((SeF10.keep Kc9).keep Kc16).keep Kc23).wr W37).wr W39).wr W41).wr W43).wr W45) (by decide)))).other W43 (Or.inr (slot_ne (Or.inl (hw _ (List.mem_of_getElem? (i := 20) rfl))) (Or.inl (hw _ (List.mem_of_getElem? (i := 12) rfl))) (by decide) (t := (.array (.array .byte))) (t' := (.array (.array (.object "java/lang/Object")))) (by decide) (by decide)))).other W45 (Or.inr (slot_ne (Or.inl (hw _ (List.mem_of_getElem? (i := 20) rfl))) (Or.inl (hw _ (List.mem_of_getElem? (i := 16) rfl))) (by decide) (t := (.array (.array .byte))) (t' := (.array (.array .long))) (by decide) (by decide)))).same W47
  have K47 : Keep h0 h47 [r0, I1, T1, F1] := K45.wr W47 (Or.inl (List.mem_of_getElem? (i := 0) rfl))
  have N47 := Fr.snoc X47 N45 g_r0
  have pre48 : ∀ t, Steps p.tables e below (T47.setTop (mkF m 183 #[rv r0, iv (32 : Int32), rv y9, rv y16, rv y23, rv I1, rv T1, rv F1] [(.int (1 : Int32)), (.ref r0)])) t → Steps p.tables e below (s₁.setTop (entryFrame m #[(.ref r0)] 8)) t := by
    intro t kt
    refine pre46 _ ?_
    show Steps p.tables e below (T45.setTop (mkF m 178 #[rv r0, iv (32 : Int32), rv y9, rv y16, rv y23, rv I1, rv T1, rv F1] [(.ref F1), (.ref r0)])) _
    refine st47 _ ?_
    show Steps p.tables e below (T47.setTop (mkF m 181 #[rv r0, iv (32 : Int32), rv y9, rv y16, rv y23, rv I1, rv T1, rv F1] [])) _
    refine XS.aloadN X47.here hx rfl (hb hby d7_181) rfl rfl ?_
    refine XS.iconst X47.here hx rfl (hb hby d7_182) ?_
    exact kt
  obtain ⟨T49, h49, X49, e49, W49, st49⟩ := putF X47 hx hZ hown (host := "") (Or.inl (hw _ (List.mem_of_getElem? (i := 62) rfl))) Via.refl e47 (((((((((Sbl0.keep Kc9 nin0).keep Kc16 nin0).keep Kc23 nin0).other W37 (Or.inl (Exa.ne (((((((((E_r0.keep Kc9).keep Kc16).keep Kc23).wr W37).wr W39).wr W41).wr W43).wr W45).wr W47) (((((((((SeI10.keep Kc9).keep Kc16).keep Kc23).wr W37).wr W39).wr W41).wr W43).wr W45).wr W47) (by decide)))).other W39 (Or.inl (Exa.ne (((((((((E_r0.keep Kc9).keep Kc16).keep Kc23).wr W37).wr W39).wr W41).wr W43).wr W45).wr W47) (((((((((SeT10.keep Kc9).keep Kc16).keep Kc23).wr W37).wr W39).wr W41).wr W43).wr W45).wr W47) (by decide)))).other W41 (Or.inl (Exa.ne (((((((((E_r0.keep Kc9).keep Kc16).keep Kc23).wr W37).wr W39).wr W41).wr W43).wr W45).wr W47) (((((((((SeF10.keep Kc9).keep Kc16).keep Kc23).wr W37).wr W39).wr W41).wr W43).wr W45).wr W47) (by decide)))).other W43 (Or.inr (slot_ne (Or.inl (hw _ (List.mem_of_getElem? (i := 63) rfl))) (Or.inl (hw _ (List.mem_of_getElem? (i := 12) rfl))) (by decide) (t := .int) (t' := (.array (.array (.object "java/lang/Object")))) (by decide) (by decide)))).other W45 (Or.inr (slot_ne (Or.inl (hw _ (List.mem_of_getElem? (i := 63) rfl))) (Or.inl (hw _ (List.mem_of_getElem? (i := 16) rfl))) (by decide) (t := .int) (t' := (.array (.array .long))) (by decide) (by decide)))).other W47 (Or.inr (slot_ne (Or.inl (hw _ (List.mem_of_getElem? (i := 63) rfl))) (Or.inl (hw _ (List.mem_of_getElem? (i := 20) rfl))) (by decide) (t := .int) (t' := (.array (.array .byte))) (by decide) (by decide)))) (((((((((E_r0.keep Kc9).keep Kc16).keep Kc23).wr W37).wr W39).wr W41).wr W43).wr W45).wr W47) (Or.inl (hw _ (List.mem_of_getElem? (i := 63) rfl))) (hw _ (List.mem_of_getElem? (i := 1) rfl)) (ty := .int) (by decide) rfl rfl (g := (mkF m 183 #[rv r0, iv (32 : Int32), rv y9, rv y16, rv y23, rv I1, rv T1, rv F1] [(.int (1 : Int32)), (.ref r0)])) rfl rfl (hb hby d7_183)
  have Fw49 : Fld Z h49 r0 "com/example/loopsmith/loopsmith/queue/Slots" "blocks" "I" (.int (1 : Int32)) := (((((((((Sbl0.keep Kc9 nin0).keep Kc16 nin0).keep Kc23 nin0).other W37 (Or.inl (Exa.ne (((((((((E_r0.keep Kc9).keep Kc16).keep Kc23).wr W37).wr W39).wr W41).wr W43).wr W45).wr W47) (((((((((SeI10.keep Kc9).keep Kc16).keep Kc23).wr W37).wr W39).wr W41).wr W43).wr W45).wr W47) (by decide)))).other W39 (Or.inl (Exa.ne (((((((((E_r0.keep Kc9).keep Kc16).keep Kc23).wr W37).wr W39).wr W41).wr W43).wr W45).wr W47) (((((((((SeT10.keep Kc9).keep Kc16).keep Kc23).wr W37).wr W39).wr W41).wr W43).wr W45).wr W47) (by decide)))).other W41 (Or.inl (Exa.ne (((((((((E_r0.keep Kc9).keep Kc16).keep Kc23).wr W37).wr W39).wr W41).wr W43).wr W45).wr W47) (((((((((SeF10.keep Kc9).keep Kc16).keep Kc23).wr W37).wr W39).wr W41).wr W43).wr W45).wr W47) (by decide)))).other W43 (Or.inr (slot_ne (Or.inl (hw _ (List.mem_of_getElem? (i := 63) rfl))) (Or.inl (hw _ (List.mem_of_getElem? (i := 12) rfl))) (by decide) (t := .int) (t' := (.array (.array (.object "java/lang/Object")))) (by decide) (by decide)))).other W45 (Or.inr (slot_ne (Or.inl (hw _ (List.mem_of_getElem? (i := 63) rfl))) (Or.inl (hw _ (List.mem_of_getElem? (i := 16) rfl))) (by decide) (t := .int) (t' := (.array (.array .long))) (by decide) (by decide)))).other W47 (Or.inr (slot_ne (Or.inl (hw _ (List.mem_of_getElem? (i := 63) rfl))) (Or.inl (hw _ (List.mem_of_getElem? (i := 20) rfl))) (by decide) (t := .int) (t' := (.array (.array .byte))) (by decide) (by decide)))).same W49
  have K49 : Keep h0 h49 [r0, I1, T1, F1] := K47.wr W49 (Or.inl (List.mem_of_getElem? (i := 0) rfl))
  have N49 := Fr.snoc X49 N47 g_r0
  have pre50 : ∀ t, Steps p.tables e below (T49.setTop (mkF m 188 #[rv r0, iv (32 : Int32), rv y9, rv y16, rv y23, rv I1, rv T1, rv F1] [(.int (32 : Int32)), (.ref r0)])) t → Steps p.tables e below (s₁.setTop (entryFrame m #[(.ref r0)] 8)) t := by
    intro t kt
    refine pre48 _ ?_
    show Steps p.tables e below (T47.setTop (mkF m 183 #[rv r0, iv (32 : Int32), rv y9, rv y16, rv y23, rv I1, rv T1, rv F1] [(.int (1 : Int32)), (.ref r0)])) _
    refine st49 _ ?_
    show Steps p.tables e below (T49.setTop (mkF m 186 #[rv r0, iv (32 : Int32), rv y9, rv y16, rv y23, rv I1, rv T1, rv F1] [])) _
    refine XS.aloadN X49.here hx rfl (hb hby d7_186) rfl rfl ?_
    refine XS.iloadN X49.here hx rfl (hb hby d7_187) rfl ?_
    exact kt
  obtain ⟨T51, h51, X51, e51, W51, st51⟩ := putF X49 hx hZ hown (host := "") (Or.inl (hw _ (List.mem_of_getElem? (i := 33) rfl))) Via.refl e49 ((((((((((Sca0.keep Kc9 nin0).keep Kc16 nin0).keep Kc23 nin0).other W37 (Or.inl (Exa.ne ((((((((((E_r0.keep Kc9).keep Kc16).keep Kc23).wr W37).wr W39).wr W41).wr W43).wr W45).wr W47).wr W49) ((((((((((SeI10.keep Kc9).keep Kc16).keep Kc23).wr W37).wr W39).wr W41).wr W43).wr W45).wr W47).wr W49) (by decide)))).other W39 (Or.inl (Exa.ne ((((((((((E_r0.keep Kc9).keep Kc16).keep Kc23).wr W37).wr W39).wr W41).wr W43).wr W45).wr W47).wr W49) ((((((((((SeT10.keep Kc9).keep Kc16).keep Kc23).wr W37).wr W39).wr W41).wr W43).wr W45).wr W47).wr W49) (by decide)))).other W41 (Or.inl (Exa.ne ((((((((((E_r0.keep Kc9).keep Kc16).keep Kc23).wr W37).wr W39).wr W41).wr W43).wr W45).wr W47).wr W49) ((((((((((SeF10.keep Kc9).keep Kc16).keep Kc23).wr W37).wr W39).wr W41).wr W43).wr W45).wr W47).wr W49) (by decide)))).other W43 (Or.inr (slot_ne (Or.inl (hw _ (List.mem_of_getElem? (i := 34) rfl))) (Or.inl (hw _ (List.mem_of_getElem? (i := 12) rfl))) (by decide) (t := .int) (t' := (.array (.array (.object "java/lang/Object")))) (by decide) (by decide)))).other W45 (Or.inr (slot_ne (Or.inl (hw _ (List.mem_of_getElem? (i := 34) rfl))) (Or.inl (hw _ (List.mem_of_getElem? (i := 16) rfl))) (by decide) (t := .int) (t' := (.array (.array .long))) (by decide) (by decide)))).other W47 (Or.inr (slot_ne (Or.inl (hw _ (List.mem_of_getElem? (i := 34) rfl))) (Or.inl (hw _ (List.mem_of_getElem? (i := 20) rfl))) (by decide) (t := .int) (t' := (.array (.array .byte))) (by decide) (by decide)))).other W49 (Or.inr (slot_ne (Or.inl (hw _ (List.mem_of_getElem? (i := 34) rfl))) (Or.inl (hw _ (List.mem_of_getElem? (i := 63) rfl))) (by decide) (t := .int) (t' := .int) (by decide) (by decide)))) ((((((((((E_r0.keep Kc9).keep Kc16).keep Kc23).wr W37).wr W39).wr W41).wr W43).wr W45).wr W47).wr W49) (Or.inl (hw _ (List.mem_of_getElem? (i := 34) rfl))) (hw _ (List.mem_of_getElem? (i := 1) rfl)) (ty := .int) (by decide) rfl rfl (g := (mkF m 188 #[rv r0, iv (32 : Int32), rv y9, rv y16, rv y23, rv I1, rv T1, rv F1] [(.int (32 : Int32)), (.ref r0)])) rfl rfl (hb hby d7_188)
  have Fw51 : Fld Z h51 r0 "com/example/loopsmith/loopsmith/queue/Slots" "capacity" "I" (.int (32 : Int32)) := ((((((((((Sca0.keep Kc9 nin0).keep Kc16 nin0).keep Kc23 nin0).other W37 (Or.inl (Exa.ne ((((((((((E_r0.keep Kc9).keep Kc16).keep Kc23).wr W37).wr W39).wr W41).wr W43).wr W45).wr W47).wr W49) ((((((((((SeI10.keep Kc9).keep Kc16).keep Kc23).wr W37).wr W39).wr W41).wr W43).wr W45).wr W47).wr W49) (by decide)))).other W39 (Or.inl (Exa.ne ((((((((((E_r0.keep Kc9).keep Kc16).keep Kc23).wr W37).wr W39).wr W41).wr W43).wr W45).wr W47).wr W49) ((((((((((SeT10.keep Kc9).keep Kc16).keep Kc23).wr W37).wr W39).wr W41).wr W43).wr W45).wr W47).wr W49) (by decide)))).other W41 (Or.inl (Exa.ne ((((((((((E_r0.keep Kc9).keep Kc16).keep Kc23).wr W37).wr W39).wr W41).wr W43).wr W45).wr W47).wr W49) ((((((((((SeF10.keep Kc9).keep Kc16).keep Kc23).wr W37).wr W39).wr W41).wr W43).wr W45).wr W47).wr W49) (by decide)))).other W43 (Or.inr (slot_ne (Or.inl (hw _ (List.mem_of_getElem? (i := 34) rfl))) (Or.inl (hw _ (List.mem_of_getElem? (i := 12) rfl))) (by decide) (t := .int) (t' := (.array (.array (.object "java/lang/Object")))) (by decide) (by decide)))).other W45 (Or.inr (slot_ne (Or.inl (hw _ (List.mem_of_getElem? (i := 34) rfl))) (Or.inl (hw _ (List.mem_of_getElem? (i := 16) rfl))) (by decide) (t := .int) (t' := (.array (.array .long))) (by decide) (by decide)))).other W47 (Or.inr (slot_ne (Or.inl (hw _ (List.mem_of_getElem? (i := 34) rfl))) (Or.inl (hw _ (List.mem_of_getElem? (i := 20) rfl))) (by decide) (t := .int) (t' := (.array (.array .byte))) (by decide) (by decide)))).other W49 (Or.inr (slot_ne (Or.inl (hw _ (List.mem_of_getElem? (i := 34) rfl))) (Or.inl (hw _ (List.mem_of_getElem? (i := 63) rfl))) (by decide) (t := .int) (t' := .int) (by decide) (by decide)))).same W51
  have K51 : Keep h0 h51 [r0, I1, T1, F1] := K49.wr W51 (Or.inl (List.mem_of_getElem? (i := 0) rfl))
  have N51 := Fr.snoc X51 N49 g_r0
  have pre52 : ∀ t, Steps p.tables e below (T51.setTop (mkF m 191 #[rv r0, iv (32 : Int32), rv y9, rv y16, rv y23, rv I1, rv T1, rv F1] [])) t → Steps p.tables e below (s₁.setTop (entryFrame m #[(.ref r0)] 8)) t := by
    intro t kt
    refine pre50 _ ?_
    show Steps p.tables e below (T49.setTop (mkF m 188 #[rv r0, iv (32 : Int32), rv y9, rv y16, rv y23, rv I1, rv T1, rv F1] [(.int (32 : Int32)), (.ref r0)])) _
    refine st51 _ ?_
    exact kt
  obtain ⟨fs, hr, hrun, hended, hW, hsame⟩ := X51.leave (v := none) (fun _ => rfl)
  refine ⟨_, _, pre52 _ ?_, hrun, hended, _, _, rfl, ?_, ⟨_, rfl⟩, hW, hsame.mono (by decide) (by decide)⟩
  · show Steps p.tables e below (T51.setTop (mkF m 191 #[rv r0, iv (32 : Int32), rv y9, rv y16, rv y23, rv I1, rv T1, rv F1] [])) _
    exact X51.returnOut hx Bd.returns (hb hby d7_191) hr
  · show Q7c16 Z r0 mr I1 T1 F1 i2 t2 f2 kI kT kF ki kt kf h0 n0 _ T51.heap _
    rw [e51]
    exact ⟨I1, T1, F1, y9, y16, y23, kI, kT, kF, ky9, ky16, ky23, rfl, N51, K51, ⟨g_I1, g_T1, g_F1, g_y9, g_y16, g_y23⟩, ⟨((((Fw43.other W45 (Or.inr (slot_ne (Or.inl (hw _ (List.mem_of_getElem? (i := 12) rfl))) (Or.inl (hw _ (List.mem_of_getElem? (i := 16) rfl))) (by decide) (t := (.array (.array (.object "java/lang/Object")))) (t' := (.array (.array .long))) (by decide) (by decide)))).other W47 (Or.inr (slot_ne (Or.inl (hw _ (List.mem_of_getElem? (i := 12) rfl))) (Or.inl (hw _ (List.mem_of_getElem? (i := 20) rfl))) (by decide) (t := (.array (.array (.object "java/lang/Object")))) (t' := (.array (.array .byte))) (by decide) (by decide)))).other W49 (Or.inr (slot_ne (Or.inl (hw _ (List.mem_of_getElem? (i := 12) rfl))) (Or.inl (hw _ (List.mem_of_getElem? (i := 63) rfl))) (by decide) (t := (.array (.array (.object "java/lang/Object")))) (t' := .int) (by decide) (by decide)))).other W51 (Or.inr (slot_ne (Or.inl (hw _ (List.mem_of_getElem? (i := 12) rfl))) (Or.inl (hw _ (List.mem_of_getElem? (i := 34) rfl))) (by decide) (t := (.array (.array (.object "java/lang/Object")))) (t' := .int) (by decide) (by decide)))), (((Fw45.other W47 (Or.inr (slot_ne (Or.inl (hw _ (List.mem_of_getElem? (i := 16) rfl))) (Or.inl (hw _ (List.mem_of_getElem? (i := 20) rfl))) (by decide) (t := (.array (.array .long))) (t' := (.array (.array .byte))) (by decide) (by decide)))).other W49 (Or.inr (slot_ne (Or.inl (hw _ (List.mem_of_getElem? (i := 16) rfl))) (Or.inl (hw _ (List.mem_of_getElem? (i := 63) rfl))) (by decide) (t := (.array (.array .long))) (t' := .int) (by decide) (by decide)))).other W51 (Or.inr (slot_ne (Or.inl (hw _ (List.mem_of_getElem? (i := 16) rfl))) (Or.inl (hw _ (List.mem_of_getElem? (i := 34) rfl))) (by decide) (t := (.array (.array .long))) (t' := .int) (by decide) (by decide)))), ((Fw47.other W49 (Or.inr (slot_ne (Or.inl (hw _ (List.mem_of_getElem? (i := 20) rfl))) (Or.inl (hw _ (List.mem_of_getElem? (i := 63) rfl))) (by decide) (t := (.array (.array .byte))) (t' := .int) (by decide) (by decide)))).other W51 (Or.inr (slot_ne (Or.inl (hw _ (List.mem_of_getElem? (i := 20) rfl))) (Or.inl (hw _ (List.mem_of_getElem? (i := 34) rfl))) (by decide) (t := (.array (.array .byte))) (t' := .int) (by decide) (by decide)))), ⟨_, (Fw49.other W51 (Or.inr (slot_ne (Or.inl (hw _ (List.mem_of_getElem? (i := 63) rfl))) (Or.inl (hw _ (List.mem_of_getElem? (i := 34) rfl))) (by decide) (t := .int) (t' := .int) (by decide) (by decide))))⟩, Fw51, (((((((((((SeI10.keep Kc9).keep Kc16).keep Kc23).wr W37).wr W39).wr W41).wr W43).wr W45).wr W47).wr W49).wr W51), (((((((((((SeT10.keep Kc9).keep Kc16).keep Kc23).wr W37).wr W39).wr W41).wr W43).wr W45).wr W47).wr W49).wr W51), (((((((((((SeF10.keep Kc9).keep Kc16).keep Kc23).wr W37).wr W39).wr W41).wr W43).wr W45).wr W47).wr W49).wr W51), ((((((((((Ey9.keep Kc16).keep Kc23).wr W37).wr W39).wr W41).wr W43).wr W45).wr W47).wr W49).wr W51), (((((((((Ey16.keep Kc23).wr W37).wr W39).wr W41).wr W43).wr W45).wr W47).wr W49).wr W51), ((((((((Ey23.wr W37).wr W39).wr W41).wr W43).wr W45).wr W47).wr W49).wr W51), (((((((V37.other W39 (Exa.ne (((((((((((SeI10.keep Kc9).keep Kc16).keep Kc23).wr W37).wr W39).wr W41).wr W43).wr W45).wr W47).wr W49).wr W51) (((((((((((SeT10.keep Kc9).keep Kc16).keep Kc23).wr W37).wr W39).wr W41).wr W43).wr W45).wr W47).wr W49).wr W51) (by decide))).other W41 (Exa.ne (((((((((((SeI10.keep Kc9).keep Kc16).keep Kc23).wr W37).wr W39).wr W41).wr W43).wr W45).wr W47).wr W49).wr W51) (((((((((((SeF10.keep Kc9).keep Kc16).keep Kc23).wr W37).wr W39).wr W41).wr W43).wr W45).wr W47).wr W49).wr W51) (by decide))).other W43 (Exa.ne (((((((((((SeI10.keep Kc9).keep Kc16).keep Kc23).wr W37).wr W39).wr W41).wr W43).wr W45).wr W47).wr W49).wr W51) (((((((((((E_r0.keep Kc9).keep Kc16).keep Kc23).wr W37).wr W39).wr W41).wr W43).wr W45).wr W47).wr W49).wr W51) (by decide))).other W45 (Exa.ne (((((((((((SeI10.keep Kc9).keep Kc16).keep Kc23).wr W37).wr W39).wr W41).wr W43).wr W45).wr W47).wr W49).wr W51) (((((((((((E_r0.keep Kc9).keep Kc16).keep Kc23).wr W37).wr W39).wr W41).wr W43).wr W45).wr W47).wr W49).wr W51) (by decide))).other W47 (Exa.ne (((((((((((SeI10.keep Kc9).keep Kc16).keep Kc23).wr W37).wr W39).wr W41).wr W43).wr W45).wr W47).wr W49).wr W51) (((((((((((E_r0.keep Kc9).keep Kc16).keep Kc23).wr W37).wr W39).wr W41).wr W43).wr W45).wr W47).wr W49).wr W51) (by decide))).other W49 (Exa.ne (((((((((((SeI10.keep Kc9).keep Kc16).keep Kc23).wr W37).wr W39).wr W41).wr W43).wr W45).wr W47).wr W49).wr W51) (((((((((((E_r0.keep Kc9).keep Kc16).keep Kc23).wr W37).wr W39).wr W41).wr W43).wr W45).wr W47).wr W49).wr W51) (by decide))).other W51 (Exa.ne (((((((((((SeI10.keep Kc9).keep Kc16).keep Kc23).wr W37).wr W39).wr W41).wr W43).wr W45).wr W47).wr W49).wr W51) (((((((((((E_r0.keep Kc9).keep Kc16).keep Kc23).wr W37).wr W39).wr W41).wr W43).wr W45).wr W47).wr W49).wr W51) (by decide))), ((((((V39.other W41 (Exa.ne (((((((((((SeT10.keep Kc9).keep Kc16).keep Kc23).wr W37).wr W39).wr W41).wr W43).wr W45).wr W47).wr W49).wr W51) (((((((((((SeF10.keep Kc9).keep Kc16).keep Kc23).wr W37).wr W39).wr W41).wr W43).wr W45).wr W47).wr W49).wr W51) (by decide))).other W43 (Exa.ne (((((((((((SeT10.keep Kc9).keep Kc16).keep Kc23).wr W37).wr W39).wr W41).wr W43).wr W45).wr W47).wr W49).wr W51) (((((((((((E_r0.keep Kc9).keep Kc16).keep Kc23).wr W37).wr W39).wr W41).wr W43).wr W45).wr W47).wr W49).wr W51) (by decide))).other W45 (Exa.ne (((((((((((SeT10.keep Kc9).keep Kc16).keep Kc23).wr W37).wr W39).wr W41).wr W43).wr W45).wr W47).wr W49).wr W51) (((((((((((E_r0.keep Kc9).keep Kc16).keep Kc23).wr W37).wr W39).wr W41).wr W43).wr W45).wr W47).wr W49).wr W51) (by decide))).other W47 (Exa.ne (((((((((((SeT10.keep Kc9).keep Kc16).keep Kc23).wr W37).wr W39).wr W41).wr W43).wr W45).wr W47).wr W49).wr W51) (((((((((((E_r0.keep Kc9).keep Kc16).keep Kc23).wr W37).wr W39).wr W41).wr W43).wr W45).wr W47).wr W49).wr W51) (by decide))).other W49 (Exa.ne (((((((((((SeT10.keep Kc9).keep Kc16).keep Kc23).wr W37).wr W39).wr W41).wr W43).wr W45).wr W47).wr W49).wr W51) (((((((((((E_r0.keep Kc9).keep Kc16).keep Kc23).wr W37).wr W39).wr W41).wr W43).wr W45).wr W47).wr W49).wr W51) (by decide))).other W51 (Exa.ne (((((((((((SeT10.keep Kc9).keep Kc16).keep Kc23).wr W37).wr W39).wr W41).wr W43).wr W45).wr W47).wr W49).wr W51) (((((((((((E_r0.keep Kc9).keep Kc16).keep Kc23).wr W37).wr W39).wr W41).wr W43).wr W45).wr W47).wr W49).wr W51) (by decide))), (((((V41.other W43 (Exa.ne (((((((((((SeF10.keep Kc9).keep Kc16).keep Kc23).wr W37).wr W39).wr W41).wr W43).wr W45).wr W47).wr W49).wr W51) (((((((((((E_r0.keep Kc9).keep Kc16).keep Kc23).wr W37).wr W39).wr W41).wr W43).wr W45).wr W47).wr W49).wr W51) (by decide))).other W45 (Exa.ne (((((((((((SeF10.keep Kc9).keep Kc16).keep Kc23).wr W37).wr W39).wr W41).wr W43).wr W45).wr W47).wr W49).wr W51) (((((((((((E_r0.keep Kc9).keep Kc16).keep Kc23).wr W37).wr W39).wr W41).wr W43).wr W45).wr W47).wr W49).wr W51) (by decide))).other W47 (Exa.ne (((((((((((SeF10.keep Kc9).keep Kc16).keep Kc23).wr W37).wr W39).wr W41).wr W43).wr W45).wr W47).wr W49).wr W51) (((((((((((E_r0.keep Kc9).keep Kc16).keep Kc23).wr W37).wr W39).wr W41).wr W43).wr W45).wr W47).wr W49).wr W51) (by decide))).other W49 (Exa.ne (((((((((((SeF10.keep Kc9).keep Kc16).keep Kc23).wr W37).wr W39).wr W41).wr W43).wr W45).wr W47).wr W49).wr W51) (((((((((((E_r0.keep Kc9).keep Kc16).keep Kc23).wr W37).wr W39).wr W41).wr W43).wr W45).wr W47).wr W49).wr W51) (by decide))).other W51 (Exa.ne (((((((((((SeF10.keep Kc9).keep Kc16).keep Kc23).wr W37).wr W39).wr W41).wr W43).wr W45).wr W47).wr W49).wr W51) (((((((((((E_r0.keep Kc9).keep Kc16).keep Kc23).wr W37).wr W39).wr W41).wr W43).wr W45).wr W47).wr W49).wr W51) (by decide))), ((((((((((Vy9.keep Kc16 nin0).keep Kc23 nin0).other W37 (Exa.ne ((((((((((Ey9.keep Kc16).keep Kc23).wr W37).wr W39).wr W41).wr W43).wr W45).wr W47).wr W49).wr W51) (((((((((((SeI10.keep Kc9).keep Kc16).keep Kc23).wr W37).wr W39).wr W41).wr W43).wr W45).wr W47).wr W49).wr W51) (by decide))).other W39 (Exa.ne ((((((((((Ey9.keep Kc16).keep Kc23).wr W37).wr W39).wr W41).wr W43).wr W45).wr W47).wr W49).wr W51) (((((((((((SeT10.keep Kc9).keep Kc16).keep Kc23).wr W37).wr W39).wr W41).wr W43).wr W45).wr W47).wr W49).wr W51) (by decide))).other W41 (Exa.ne ((((((((((Ey9.keep Kc16).keep Kc23).wr W37).wr W39).wr W41).wr W43).wr W45).wr W47).wr W49).wr W51) (((((((((((SeF10.keep Kc9).keep Kc16).keep Kc23).wr W37).wr W39).wr W41).wr W43).wr W45).wr W47).wr W49).wr W51) (by decide))).other W43 (Exa.ne ((((((((((Ey9.keep Kc16).keep Kc23).wr W37).wr W39).wr W41).wr W43).wr W45).wr W47).wr W49).wr W51) (((((((((((E_r0.keep Kc9).keep Kc16).keep Kc23).wr W37).wr W39).wr W41).wr W43).wr W45).wr W47).wr W49).wr W51) (by decide))).other W45 (Exa.ne ((((((((((Ey9.keep Kc16).keep Kc23).wr W37).wr W39).wr W41).wr W43).wr W45).wr W47).wr W49).wr W51) (((((((((((E_r0.keep Kc9).keep Kc16).keep Kc23).wr W37).wr W39).wr W41).wr W43).wr W45).wr W47).wr W49).wr W51) (by decide))).other W47 (Exa.ne ((((((((((Ey9.keep Kc16).keep Kc23).wr W37).wr W39).wr W41).wr W43).wr W45).wr W47).wr W49).wr W51) (((((((((((E_r0.keep Kc9).keep Kc16).keep Kc23).wr W37).wr W39).wr W41).wr W43).wr W45).wr W47).wr W49).wr W51) (by decide))).other W49 (Exa.ne ((((((((((Ey9.keep Kc16).keep Kc23).wr W37).wr W39).wr W41).wr W43).wr W45).wr W47).wr W49).wr W51) (((((((((((E_r0.keep Kc9).keep Kc16).keep Kc23).wr W37).wr W39).wr W41).wr W43).wr W45).wr W47).wr W49).wr W51) (by decide))).other W51 (Exa.ne ((((((((((Ey9.keep Kc16).keep Kc23).wr W37).wr W39).wr W41).wr W43).wr W45).wr W47).wr W49).wr W51) (((((((((((E_r0.keep Kc9).keep Kc16).keep Kc23).wr W37).wr W39).wr W41).wr W43).wr W45).wr W47).wr W49).wr W51) (by decide))), (((((((((Vy16.keep Kc23 nin0).other W37 (Exa.ne (((((((((Ey16.keep Kc23).wr W37).wr W39).wr W41).wr W43).wr W45).wr W47).wr W49).wr W51) (((((((((((SeI10.keep Kc9).keep Kc16).keep Kc23).wr W37).wr W39).wr W41).wr W43).wr W45).wr W47).wr W49).wr W51) (by decide))).other W39 (Exa.ne (((((((((Ey16.keep Kc23).wr W37).wr W39).wr W41).wr W43).wr W45).wr W47).wr W49).wr W51) (((((((((((SeT10.keep Kc9).keep Kc16).keep Kc23).wr W37).wr W39).wr W41).wr W43).wr W45).wr W47).wr W49).wr W51) (by decide))).other W41 (Exa.ne (((((((((Ey16.keep Kc23).wr W37).wr W39).wr W41).wr W43).wr W45).wr W47).wr W49).wr W51) (((((((((((SeF10.keep Kc9).keep Kc16).keep Kc23).wr W37).wr W39).wr W41).wr W43).wr W45).wr W47).wr W49).wr W51) (by decide))).other W43 (Exa.ne (((((((((Ey16.keep Kc23).wr W37).wr W39).wr W41).wr W43).wr W45).wr W47).wr W49).wr W51) (((((((((((E_r0.keep Kc9).keep Kc16).keep Kc23).wr W37).wr W39).wr W41).wr W43).wr W45).wr W47).wr W49).wr W51) (by decide))).other W45 (Exa.ne (((((((((Ey16.keep Kc23).wr W37).wr W39).wr W41).wr W43).wr W45).wr W47).wr W49).wr W51) (((((((((((E_r0.keep Kc9).keep Kc16).keep Kc23).wr W37).wr W39).wr W41).wr W43).wr W45).wr W47).wr W49).wr W51) (by decide))).other W47 (Exa.ne (((((((((Ey16.keep Kc23).wr W37).wr W39).wr W41).wr W43).wr W45).wr W47).wr W49).wr W51) (((((((((((E_r0.keep Kc9).keep Kc16).keep Kc23).wr W37).wr W39).wr W41).wr W43).wr W45).wr W47).wr W49).wr W51) (by decide))).other W49 (Exa.ne (((((((((Ey16.keep Kc23).wr W37).wr W39).wr W41).wr W43).wr W45).wr W47).wr W49).wr W51) (((((((((((E_r0.keep Kc9).keep Kc16).keep Kc23).wr W37).wr W39).wr W41).wr W43).wr W45).wr W47).wr W49).wr W51) (by decide))).other W51 (Exa.ne (((((((((Ey16.keep Kc23).wr W37).wr W39).wr W41).wr W43).wr W45).wr W47).wr W49).wr W51) (((((((((((E_r0.keep Kc9).keep Kc16).keep Kc23).wr W37).wr W39).wr W41).wr W43).wr W45).wr W47).wr W49).wr W51) (by decide))), ((((((((Vy23.other W37 (Exa.ne ((((((((Ey23.wr W37).wr W39).wr W41).wr W43).wr W45).wr W47).wr W49).wr W51) (((((((((((SeI10.keep Kc9).keep Kc16).keep Kc23).wr W37).wr W39).wr W41).wr W43).wr W45).wr W47).wr W49).wr W51) (by decide))).other W39 (Exa.ne ((((((((Ey23.wr W37).wr W39).wr W41).wr W43).wr W45).wr W47).wr W49).wr W51) (((((((((((SeT10.keep Kc9).keep Kc16).keep Kc23).wr W37).wr W39).wr W41).wr W43).wr W45).wr W47).wr W49).wr W51) (by decide))).other W41 (Exa.ne ((((((((Ey23.wr W37).wr W39).wr W41).wr W43).wr W45).wr W47).wr W49).wr W51) (((((((((((SeF10.keep Kc9).keep Kc16).keep Kc23).wr W37).wr W39).wr W41).wr W43).wr W45).wr W47).wr W49).wr W51) (by decide))).other W43 (Exa.ne ((((((((Ey23.wr W37).wr W39).wr W41).wr W43).wr W45).wr W47).wr W49).wr W51) (((((((((((E_r0.keep Kc9).keep Kc16).keep Kc23).wr W37).wr W39).wr W41).wr W43).wr W45).wr W47).wr W49).wr W51) (by decide))).other W45 (Exa.ne ((((((((Ey23.wr W37).wr W39).wr W41).wr W43).wr W45).wr W47).wr W49).wr W51) (((((((((((E_r0.keep Kc9).keep Kc16).keep Kc23).wr W37).wr W39).wr W41).wr W43).wr W45).wr W47).wr W49).wr W51) (by decide))).other W47 (Exa.ne ((((((((Ey23.wr W37).wr W39).wr W41).wr W43).wr W45).wr W47).wr W49).wr W51) (((((((((((E_r0.keep Kc9).keep Kc16).keep Kc23).wr W37).wr W39).wr W41).wr W43).wr W45).wr W47).wr W49).wr W51) (by decide))).other W49 (Exa.ne ((((((((Ey23.wr W37).wr W39).wr W41).wr W43).wr W45).wr W47).wr W49).wr W51) (((((((((((E_r0.keep Kc9).keep Kc16).keep Kc23).wr W37).wr W39).wr W41).wr W43).wr W45).wr W47).wr W49).wr W51) (by decide))).other W51 (Exa.ne ((((((((Ey23.wr W37).wr W39).wr W41).wr W43).wr W45).wr W47).wr W49).wr W51) (((((((((((E_r0.keep Kc9).keep Kc16).keep Kc23).wr W37).wr W39).wr W41).wr W43).wr W45).wr W47).wr W49).wr W51) (by decide))), SoI10, SoT10, SoF10, Oy9⟩⟩

theorem ef_6c16 (m : MethodId) (x0 : Addr) : entryFrame m #[(.ref x0)] 1 = mkF m 0 #[.val (.ref x0)] [] := by first | (simp [entryFrame, mkF, argsToLocals, Value.category]; done) | rfl
def Q6c16 (Z : State) (r0 : Addr) (mr : Addr) (I1 : Addr) (T1 : Addr) (F1 : Addr) (i2 : Addr) (t2 : Addr) (f2 : Addr) (kI : ClassId) (kT : ClassId) (kF : ClassId) (ki : ClassId) (kt : ClassId) (kf : ClassId) (h0 : Heap) (n0 : Nat) (v : Option Value) (h : Heap) (L : List Loc) : Prop := ∃ zI1 zT1 zF1 zi2 zt2 zf2 : Addr, ∃ zkI zkT zkF zki zkt zkf : ClassId, v = none ∧ Fr n0 L ∧ Keep h0 h [r0, I1, T1, F1] ∧ (n0 ≤ zI1 ∧ n0 ≤ zT1 ∧ n0 ≤ zF1 ∧ n0 ≤ zi2 ∧ n0 ≤ zt2 ∧ n0 ≤ zf2) ∧ own_Sl Z h r0 zI1 zT1 zF1 zi2 zt2 zf2 zkI zkT zkF zki zkt zkf (32 : Int32) (64 : Int32)
set_option maxRecDepth 65536 in
set_option maxHeartbeats 40000000 in
theorem rm6c16 (l : Launch) (Z : State) (a0 : Array Value) (hw : ∀ d ∈ tables_1, d.before a0 Z = true) (ws : List Jvm.Cond) (r0 : Addr) (mr : Addr) (I1 : Addr) (T1 : Addr) (F1 : Addr) (i2 : Addr) (t2 : Addr) (f2 : Addr) (kI : ClassId) (kT : ClassId) (kF : ClassId) (ki : ClassId) (kt : ClassId) (kf : ClassId) (h0 : Heap) (n0 : Nat) (Z0 : n0 ≤ h0.size) (M_ : Mir Z "[Ljava/lang/Object;" mr) (SL : own_Sl Z h0 r0 I1 T1 F1 i2 t2 f2 kI kT kF ki kt kf (16 : Int32) (32 : Int32)) (E_r0 : Exa Z h0 r0 "com/example/loopsmith/loopsmith/queue/Slots") (g_r0 : n0 ≤ r0) (g_I1 : n0 ≤ I1) (g_T1 : n0 ≤ T1) (g_F1 : n0 ≤ F1) (g_i2 : n0 ≤ i2) (g_t2 : n0 ≤ t2) (g_f2 : n0 ≤ f2) :
    MetFree l (⟨"com/example/loopsmith/loopsmith/queue/Slots", "grow", "()V"⟩ : MethodName) (head1 (Jvm.Cond.code (⟨"com/example/loopsmith/loopsmith/queue/Slots", "grow", "()V"⟩ : MethodName) prog_42_method_4_code 1 none :: ws) ({ frames := 4, cells := 3, slots := 160, locals := 65 } : Room)) (fun a U => a = #[(.ref r0)] ∧ Z.Warmed39 U.vm ∧ U.heap = h0) (fun _ _ _ _ _ => True) (fun _ U o U' => ∃ v L, o = .returned v ∧ Q6c16 Z r0 mr I1 T1 F1 i2 t2 f2 kI kT kF ki kt kf h0 n0 v U'.heap L ∧ FrameEnd U o U' L ({ frames := 4, cells := 3, slots := 160, locals := 65 } : Room).cells ({ frames := 4, cells := 3, slots := 160, locals := 65 } : Room).slots) := by
  refine MetFree.of_bodySF (plainFor_of_name pn4) hisR ?_
  intro p e s m args below meth c s₁ Bd hml0 hP hK
  obtain ⟨rfl, hZ, hh⟩ := hP
  have hx := Bd.exec
  have hby := Bd.bytes
  have hml : c.maxLocals = 1 := hml0
  have hown : s.vm.findClass "com/example/loopsmith/loopsmith/queue/Slots" = some m.cls := findClass_of_methodNamed Bd.named
  have hnm := (name_of_methodNamed Bd.named Bd.method).1
  have X0 : Stand p l e ({ frames := 4, cells := 3, slots := 160, locals := 65 } : Room) s m #[(.ref r0)] below meth c s₁ [] 0 0 := Stand.of_body Bd
  have e0 : s₁.heap = h0 := by rw [← hh, Bd.state]; rfl
  have N0 := Fr.nil n0
  have pre0 : ∀ t, Steps p.tables e below (s₁.setTop (mkF m 0 #[rv r0] [])) t → Steps p.tables e below (s₁.setTop (entryFrame m #[(.ref r0)] 1)) t := fun t k => castTop (ef_6c16 m r0) k
  obtain ⟨Sit0, Sti0, Sfl0, ⟨wb0, Sbl0⟩, Sca0, SeI10, SeT10, SeF10, Sei20, Set20, Sef20, SvI10, SvT10, SvF10, Svi20, Svt20, Svf20, SoI10, SoT10, SoF10, Soi20⟩ := id SL
  have pre1 : ∀ t, Steps p.tables e below (s₁.setTop (mkF m 1 #[rv r0] [(.ref r0)])) t → Steps p.tables e below (s₁.setTop (entryFrame m #[(.ref r0)] 1)) t := by
    intro t kt
    refine pre0 _ ?_
    show Steps p.tables e below (s₁.setTop (mkF m 0 #[rv r0] [])) _
    refine XS.aloadN X0.here hx rfl (hb hby d6_0) rfl rfl ?_
    exact kt
  obtain ⟨T2, X2, e2, st2⟩ := getF X0 hx hZ hown (host := "") (Or.inl (hw _ (List.mem_of_getElem? (i := 33) rfl))) Via.refl e0 Sca0 (g := (mkF m 1 #[rv r0] [(.ref r0)])) rfl rfl (hb hby d6_1)
  have pre3 : ∀ t, Steps p.tables e below (T2.setTop (mkF m 20 #[rv r0] [(.ref r0)])) t → Steps p.tables e below (s₁.setTop (entryFrame m #[(.ref r0)] 1)) t := by
    intro t kt
    refine pre1 _ ?_
    show Steps p.tables e below (s₁.setTop (mkF m 1 #[rv r0] [(.ref r0)])) _
    refine st2 _ ?_
    show Steps p.tables e below (T2.setTop (mkF m 4 #[rv r0] [(.int (16 : Int32))])) _
    refine X2.ldcInt hx hown (mvT hZ (hw _ (List.mem_of_getElem? (i := 45) rfl))) (g := (mkF m 4 #[rv r0] [(.int (16 : Int32))])) rfl (hb hby d6_4) _ ?_
    show Steps p.tables e below (T2.setTop (mkF m 6 #[rv r0] [(.int (536870912 : Int32)), (.int (16 : Int32))])) _
    refine XS.icmpYes X2.here hx rfl (pc0 := 6) (pc' := 19) rfl (hb hby d6_6) rfl (feq (by decide)).2 (by decide) (by decide) ?_
    refine XS.aloadN X2.here hx rfl (hb hby d6_19) rfl rfl ?_
    exact kt
  obtain ⟨T4, X4, e4, st4⟩ := getF X2 hx hZ hown (host := "") (Or.inl (hw _ (List.mem_of_getElem? (i := 33) rfl))) Via.refl e2 Sca0 (g := (mkF m 20 #[rv r0] [(.ref r0)])) rfl rfl (hb hby d6_20)
  have pre5 : ∀ t, Steps p.tables e below (T4.setTop (mkF m 30 #[rv r0] [(.ref r0)])) t → Steps p.tables e below (s₁.setTop (entryFrame m #[(.ref r0)] 1)) t := by
    intro t kt
    refine pre3 _ ?_
    show Steps p.tables e below (T2.setTop (mkF m 20 #[rv r0] [(.ref r0)])) _
    refine st4 _ ?_
    show Steps p.tables e below (T4.setTop (mkF m 23 #[rv r0] [(.int (16 : Int32))])) _
    refine XS.sipush X4.here hx rfl (hb hby d6_23) ?_
    refine XS.icmpNo X4.here hx rfl (hb hby d6_26) rfl (tlt (by decide)).2.1 ?_
    refine XS.aloadN X4.here hx rfl (hb hby d6_29) rfl rfl ?_
    exact kt
  obtain ⟨cq6, q6, q6'⟩ := E_r0.cell
  obtain ⟨_, _, ⟨T6, L6, k6, n6⟩, -, X6, ⟨Lc6, hQ6, l6, y6, z6⟩, st6⟩ := X4.privateBack hx (y := (⟨"com/example/loopsmith/loopsmith/queue/Slots", "growFirstBlock", "()V"⟩ : MethodName)) hown (mvT hZ (hw _ (List.mem_of_getElem? (i := 46) rfl))) (mvT hZ (hw _ (List.mem_of_getElem? (i := 47) rfl))) (own_selp (y := (⟨"com/example/loopsmith/loopsmith/queue/Slots", "growFirstBlock", "()V"⟩ : MethodName)) (mvT hZ (hw _ (List.mem_of_getElem? (i := 1) rfl))) (Cond.privateMethod_at (mvP hZ (hw _ (List.mem_of_getElem? (i := 48) rfl)) (args := #[]))) (mvT hZ (hw _ (List.mem_of_getElem? (i := 47) rfl))) (by decide)) (Cond.privateMethod_at (mvP hZ (hw _ (List.mem_of_getElem? (i := 48) rfl)) (args := #[]))) (mvT hZ (hw _ (List.mem_of_getElem? (i := 49) rfl))) (by decide) (backOf (W := 0) (rm7c16 l Z a0 hw [] r0 mr I1 T1 F1 i2 t2 f2 kI kT kF ki kt kf h0 n0 (Nat.le_trans Z0 (Keep.refl h0 [r0, I1, T1, F1]).1) M_ ⟨Sit0, Sti0, Sfl0, ⟨_, Sbl0⟩, Sca0, SeI10, SeT10, SeF10, Sei20, Set20, Sef20, SvI10, SvT10, SvF10, Svi20, Svt20, Svf20, SoI10, SoT10, SoF10, Soi20⟩ E_r0 g_r0 g_I1 g_T1 g_F1 g_i2 g_t2 g_f2) hZ (hw _ (List.mem_of_getElem? (i := 49) rfl)) (hw _ (List.mem_of_getElem? (i := 2) rfl)) (by decide) (by decide)) (g := (mkF m 30 #[rv r0] [(.ref r0)])) rfl (by rw [hml]; rfl) (Steps.refl _) (a := r0) (by rw [e4]; exact q6) q6' (argsL := []) (rest := []) (lenOf pd6 rfl) rfl (by show 2 * 0 + _ ≤ _; exact Nat.le_of_eq rfl) (hb hby d6_30) (fun _ _ => ⟨rfl, e4, (by decide : 0 + 3 ≤ _), (by decide : 0 + 160 ≤ _)⟩)
  dsimp only [Pt.U, Pt.locs, Pt.cells, Pt.slots] at X6 l6 y6 z6 st6 hQ6
  subst l6 y6 z6
  obtain ⟨I1_6, T1_6, F1_6, i2_6, t2_6, f2_6, kI_6, kT_6, kF_6, ki_6, kt_6, kf_6, rfl, N6q, Kc6, hg6, Sl6⟩ := hQ6
  have N6 := Fr.app N0 N6q
  have K6 : Keep h0 T6.heap [r0, I1, T1, F1] := (Keep.refl h0 [r0, I1, T1, F1]).trans Kc6 (allS (Or.inl (List.mem_of_getElem? (i := 0) rfl)) (allS (Or.inl (List.mem_of_getElem? (i := 1) rfl)) (allS (Or.inl (List.mem_of_getElem? (i := 2) rfl)) (allS (Or.inl (List.mem_of_getElem? (i := 3) rfl)) all0))))
  obtain ⟨g_I1_6, g_T1_6, g_F1_6, g_i2_6, g_t2_6, g_f2_6⟩ := hg6
  obtain ⟨Sit6, Sti6, Sfl6, ⟨wb6, Sbl6⟩, Sca6, SeI16, SeT16, SeF16, Sei26, Set26, Sef26, SvI16, SvT16, SvF16, Svi26, Svt26, Svf26, SoI16, SoT16, SoF16, Soi26⟩ := id Sl6
  have pre7 : ∀ t, Steps p.tables e below (T6.setTop (mkF m 40 #[rv r0] [])) t → Steps p.tables e below (s₁.setTop (entryFrame m #[(.ref r0)] 1)) t := by
    intro t kt
    refine pre5 _ ?_
    show Steps p.tables e below (T4.setTop (mkF m 30 #[rv r0] [(.ref r0)])) _
    refine st6.trans ?_
    show Steps p.tables e below (T6.setTop (mkF m 33 #[rv r0] [])) _
    refine XS.goto X6.here hx rfl (pc0 := 33) (pc' := 40) rfl (hb hby d6_33) (by decide) (by decide) ?_
    exact kt
  obtain ⟨fs, hr, hrun, hended, hW, hsame⟩ := X6.leave (v := none) (fun _ => rfl)
  refine ⟨_, _, pre7 _ ?_, hrun, hended, _, _, rfl, ?_, ⟨_, rfl⟩, hW, hsame.mono (by decide) (by decide)⟩
  · show Steps p.tables e below (T6.setTop (mkF m 40 #[rv r0] [])) _
    exact X6.returnOut hx Bd.returns (hb hby d6_40) hr
  · show Q6c16 Z r0 mr I1 T1 F1 i2 t2 f2 kI kT kF ki kt kf h0 n0 _ T6.heap _
    exact ⟨I1_6, T1_6, F1_6, i2_6, t2_6, f2_6, kI_6, kT_6, kF_6, ki_6, kt_6, kf_6, rfl, N6, K6, ⟨g_I1_6, g_T1_6, g_F1_6, g_i2_6, g_t2_6, g_f2_6⟩, ⟨Sit6, Sti6, Sfl6, ⟨_, Sbl6⟩, Sca6, SeI16, SeT16, SeF16, Sei26, Set26, Sef26, SvI16, SvT16, SvF16, Svi26, Svt26, Svf26, SoI16, SoT16, SoF16, Soi26⟩⟩

theorem ef_7c32 (m : MethodId) (x0 : Addr) : entryFrame m #[(.ref x0)] 8 = mkF m 0 #[.val (.ref x0), .unset, .unset, .unset, .unset, .unset, .unset, .unset] [] := by first | (simp [entryFrame, mkF, argsToLocals, Value.category]; done) | rfl
def Q7c32 (Z : State) (r0 : Addr) (mr : Addr) (I1 : Addr) (T1 : Addr) (F1 : Addr) (i2 : Addr) (t2 : Addr) (f2 : Addr) (kI : ClassId) (kT : ClassId) (kF : ClassId) (ki : ClassId) (kt : ClassId) (kf : ClassId) (h0 : Heap) (n0 : Nat) (v : Option Value) (h : Heap) (L : List Loc) : Prop := ∃ zI1 zT1 zF1 zi2 zt2 zf2 : Addr, ∃ zkI zkT zkF zki zkt zkf : ClassId, v = none ∧ Fr n0 L ∧ Keep h0 h [r0, I1, T1, F1] ∧ (n0 ≤ zI1 ∧ n0 ≤ zT1 ∧ n0 ≤ zF1 ∧ n0 ≤ zi2 ∧ n0 ≤ zt2 ∧ n0 ≤ zf2) ∧ own_Sl Z h r0 zI1 zT1 zF1 zi2 zt2 zf2 zkI zkT zkF zki zkt zkf (64 : Int32) (128 : Int32)
set_option maxRecDepth 65536 in
set_option maxHeartbeats 40000000 in
theorem rm7c32 (l : Launch) (Z : State) (a0 : Array Value) (hw : ∀ d ∈ tables_1, d.before a0 Z = true) (ws : List Jvm.Cond) (r0 : Addr) (mr : Addr) (I1 : Addr) (T1 : Addr) (F1 : Addr) (i2 : Addr) (t2 : Addr) (f2 : Addr) (kI : ClassId) (kT : ClassId) (kF : ClassId) (ki : ClassId) (kt : ClassId) (kf : ClassId) (h0 : Heap) (n0 : Nat) (Z0 : n0 ≤ h0.size) (M_ : Mir Z "[Ljava/lang/Object;" mr) (SL : own_Sl Z h0 r0 I1 T1 F1 i2 t2 f2 kI kT kF ki kt kf (32 : Int32) (64 : Int32)) (E_r0 : Exa Z h0 r0 "com/example/loopsmith/loopsmith/queue/Slots") (g_r0 : n0 ≤ r0) (g_I1 : n0 ≤ I1) (g_T1 : n0 ≤ T1) (g_F1 : n0 ≤ F1) (g_i2 : n0 ≤ i2) (g_t2 : n0 ≤ t2) (g_f2 : n0 ≤ f2) :
    MetFree l (⟨"com/example/loopsmith/loopsmith/queue/Slots", "growFirstBlock", "()V"⟩ : MethodName) (head1 (Jvm.Cond.code (⟨"com/example/loopsmith/loopsmith/queue/Slots", "growFirstBlock", "()V"⟩ : MethodName) prog_42_method_15_code 8 none :: ws) ({ frames := 3, cells := 3, slots := 320, locals := 46 } : Room)) (fun a U => a = #[(.ref r0)] ∧ Z.Warmed39 U.vm ∧ U.heap = h0) (fun _ _ _ _ _ => True) (fun _ U o U' => ∃ v L, o = .returned v ∧ Q7c32 Z r0 mr I1 T1 F1 i2 t2 f2 kI kT kF ki kt kf h0 n0 v U'.heap L ∧ FrameEnd U o U' L ({ frames := 3, cells := 3, slots := 320, locals := 46 } : Room).cells ({ frames := 3, cells := 3, slots := 320, locals := 46 } : Room).slots) := by
  refine MetFree.of_bodySF (plainFor_of_name pn4) hisR ?_
  intro p e s m args below meth c s₁ Bd hml0 hP hK
  obtain ⟨rfl, hZ, hh⟩ := hP
  have hx := Bd.exec
  have hby := Bd.bytes
  have hml : c.maxLocals = 8 := hml0
  have hown : s.vm.findClass "com/example/loopsmith/loopsmith/queue/Slots" = some m.cls := findClass_of_methodNamed Bd.named
  have hnm := (name_of_methodNamed Bd.named Bd.method).1
  have X0 : Stand p l e ({ frames := 3, cells := 3, slots := 320, locals := 46 } : Room) s m #[(.ref r0)] below meth c s₁ [] 0 0 := Stand.of_body Bd
  have e0 : s₁.heap = h0 := by rw [← hh, Bd.state]; rfl
  have N0 := Fr.nil n0
  have pre0 : ∀ t, Steps p.tables e below (s₁.setTop (mkF m 0 #[rv r0, .unset, .unset, .unset, .unset, .unset, .unset, .unset] [])) t → Steps p.tables e below (s₁.setTop (entryFrame m #[(.ref r0)] 8)) t := fun t k => castTop (ef_7c32 m r0) k
  obtain ⟨Sit0, Sti0, Sfl0, ⟨wb0, Sbl0⟩, Sca0, SeI10, SeT10, SeF10, Sei20, Set20, Sef20, SvI10, SvT10, SvF10, Svi20, Svt20, Svf20, SoI10, SoT10, SoF10, Soi20⟩ := id SL
  have pre1 : ∀ t, Steps p.tables e below (s₁.setTop (mkF m 1 #[rv r0, .unset, .unset, .unset, .unset, .unset, .unset, .unset] [(.ref r0)])) t → Steps p.tables e below (s₁.setTop (entryFrame m #[(.ref r0)] 8)) t := by
    intro t kt
    refine pre0 _ ?_
    show Steps p.tables e below (s₁.setTop (mkF m 0 #[rv r0, .unset, .unset, .unset, .unset, .unset, .unset, .unset] [])) _
    refine XS.aloadN X0.here hx rfl (hb hby d7_0) rfl rfl ?_
    exact kt
  obtain ⟨cq2, kq2, q2a, q2b, q2c⟩ := isOf hZ e0 E_r0
  obtain ⟨_, _, ⟨T2, L2, k2, n2⟩, -, X2, ⟨Lc2, hQ2, l2, y2, z2⟩, st2⟩ := X0.virtualBack hx (y := (⟨"com/example/loopsmith/loopsmith/queue/Slots", "grownCapacity", "()I"⟩ : MethodName)) (z := (⟨"com/example/loopsmith/loopsmith/queue/Slots", "grownCapacity", "()I"⟩ : MethodName)) hown (mvT hZ (hw _ (List.mem_of_getElem? (i := 50) rfl))) (mvT hZ (hw _ (List.mem_of_getElem? (i := 51) rfl))) (notFace_of_selects (args := #[]) (mvT hZ (hw _ (List.mem_of_getElem? (i := 53) rfl)))) (mvT hZ (hw _ (List.mem_of_getElem? (i := 53) rfl))) (mvT hZ (hw _ (List.mem_of_getElem? (i := 52) rfl))) (by decide) (backOf (W := 0) (rm8c32 l Z a0 hw [] r0 h0 n0 (Nat.le_trans Z0 (Keep.refl h0 [r0, I1, T1, F1]).1) Sca0) hZ (hw _ (List.mem_of_getElem? (i := 54) rfl)) (hw _ (List.mem_of_getElem? (i := 2) rfl)) (by decide) (by decide)) q2a q2c (g := (mkF m 1 #[rv r0, .unset, .unset, .unset, .unset, .unset, .unset, .unset] [(.ref r0)])) rfl (by rw [hml]; rfl) (Steps.refl _) (argsL := []) (rest := []) (lenOf pd5 rfl) rfl (by show 2 * 0 + _ ≤ _; exact Nat.le_of_eq rfl) (hb hby d7_1) (fun _ _ => ⟨rfl, e0, (by decide : 0 + 0 ≤ _), (by decide : 0 + 0 ≤ _)⟩)
  dsimp only [Pt.U, Pt.locs, Pt.cells, Pt.slots] at X2 l2 y2 z2 st2 hQ2
  subst l2 y2 z2
  obtain ⟨rfl, N2q, hh2⟩ := hQ2
  have N2 := Fr.app N0 N2q
  have pre3 : ∀ t, Steps p.tables e below (T2.setTop (mkF m 6 #[rv r0, iv (64 : Int32), .unset, .unset, .unset, .unset, .unset, .unset] [(.ref r0)])) t → Steps p.tables e below (s₁.setTop (entryFrame m #[(.ref r0)] 8)) t := by
    intro t kt
    refine pre1 _ ?_
    show Steps p.tables e below (s₁.setTop (mkF m 1 #[rv r0, .unset, .unset, .unset, .unset, .unset, .unset, .unset] [(.ref r0)])) _
    refine st2.trans ?_
    show Steps p.tables e below (T2.setTop (mkF m 4 #[rv r0, .unset, .unset, .unset, .unset, .unset, .unset, .unset] [(.int (64 : Int32))])) _
    refine XS.istoreN X2.here hx rfl (hb hby d7_4) rfl (l' := #[rv r0, iv (64 : Int32), .unset, .unset, .unset, .unset, .unset, .unset]) rfl ?_
    refine XS.aloadN X2.here hx rfl (hb hby d7_5) rfl rfl ?_
    exact kt
  obtain ⟨T4, X4, e4, st4⟩ := getF X2 hx hZ hown (host := "") (Or.inl (hw _ (List.mem_of_getElem? (i := 33) rfl))) Via.refl hh2 Sca0 (g := (mkF m 6 #[rv r0, iv (64 : Int32), .unset, .unset, .unset, .unset, .unset, .unset] [(.ref r0)])) rfl rfl (hb hby d7_6)
  have pre5 : ∀ t, Steps p.tables e below (T4.setTop (mkF m 22 #[rv r0, iv (64 : Int32), .unset, .unset, .unset, .unset, .unset, .unset] [(.ref r0)])) t → Steps p.tables e below (s₁.setTop (entryFrame m #[(.ref r0)] 8)) t := by
    intro t kt
    refine pre3 _ ?_
    show Steps p.tables e below (T2.setTop (mkF m 6 #[rv r0, iv (64 : Int32), .unset, .unset, .unset, .unset, .unset, .unset] [(.ref r0)])) _
    refine st4 _ ?_
    show Steps p.tables e below (T4.setTop (mkF m 9 #[rv r0, iv (64 : Int32), .unset, .unset, .unset, .unset, .unset, .unset] [(.int (32 : Int32))])) _
    refine XS.ifYes X4.here hx rfl (pc0 := 9) (pc' := 21) rfl (hb hby d7_9) rfl ((if0 _ _).trans (feq (by decide)).2) (by decide) (by decide) ?_
    refine XS.aloadN X4.here hx rfl (hb hby d7_21) rfl rfl ?_
    exact kt
  obtain ⟨T6, X6, e6, st6⟩ := getF X4 hx hZ hown (host := "") (Or.inl (hw _ (List.mem_of_getElem? (i := 11) rfl))) Via.refl e4 Sit0 (g := (mkF m 22 #[rv r0, iv (64 : Int32), .unset, .unset, .unset, .unset, .unset, .unset] [(.ref r0)])) rfl rfl (hb hby d7_22)
  obtain ⟨cl7, Ar7, q7, S7, M7, H7, G7⟩ := id SvI10
  have hin7 : ¬ ((0 : Int32) < 0 ∨ cl7.slots.size ≤ ((0 : Int32)).toNatClampNeg) := inb_of S7 ⟨by decide, by decide⟩
  have hat7 : cl7.slots[((0 : Int32)).toNatClampNeg]? = some (.ref i2) := H7.at hin7 rfl
  have pre8 : ∀ t, Steps p.tables e below (T6.setTop (mkF m 30 #[rv r0, iv (64 : Int32), .unset, .unset, .unset, .unset, .unset, .unset] [(.int (128 : Int32)), (.ref i2)])) t → Steps p.tables e below (s₁.setTop (entryFrame m #[(.ref r0)] 8)) t := by
    intro t kt
    refine pre5 _ ?_
    show Steps p.tables e below (T4.setTop (mkF m 22 #[rv r0, iv (64 : Int32), .unset, .unset, .unset, .unset, .unset, .unset] [(.ref r0)])) _
    refine st6 _ ?_
    show Steps p.tables e below (T6.setTop (mkF m 25 #[rv r0, iv (64 : Int32), .unset, .unset, .unset, .unset, .unset, .unset] [(.ref I1)])) _
    refine XS.iconst X6.here hx rfl (hb hby d7_25) ?_
    refine X6.aaload hx (j := (0 : Int32)) (v := (.ref i2)) (by rw [e6]; exact Ar7.1) (State.isArrayOf_alike hZ.alike Ar7.2.1) rfl Ar7.2.2 hin7 hat7 (g := (mkF m 26 #[rv r0, iv (64 : Int32), .unset, .unset, .unset, .unset, .unset, .unset] [(.int (0 : Int32)), (.ref I1)])) rfl rfl (hb hby d7_26) _ ?_
    show Steps p.tables e below (T6.setTop (mkF m 27 #[rv r0, iv (64 : Int32), .unset, .unset, .unset, .unset, .unset, .unset] [(.ref i2)])) _
    refine XS.iconst X6.here hx rfl (hb hby d7_27) ?_
    refine XS.iloadN X6.here hx rfl (hb hby d7_28) rfl ?_
    refine XS.imul X6.here hx rfl (hb hby d7_29) rfl ?_
    show Steps p.tables e below (T6.setTop (mkF m 30 #[rv r0, iv (64 : Int32), .unset, .unset, .unset, .unset, .unset, .unset] [(.int ((2 : Int32) * (64 : Int32))), (.ref i2)])) _
    rw [show ((2 : Int32) * (64 : Int32)) = (128 : Int32) from (by decide)]
    exact kt
  obtain ⟨_, _, ⟨T9, L9, k9, n9⟩, -, X9, ⟨Lc9, hQ9, l9, y9, z9⟩, st9⟩ := Jvm.LawKit.callS X6 hx (y := (⟨"java/util/Arrays", "copyOf", "([Ljava/lang/Object;I)[Ljava/lang/Object;"⟩ : MethodName)) hown (mvT hZ (hw _ (List.mem_of_getElem? (i := 64) rfl))) (mvT hZ (hw _ (List.mem_of_getElem? (i := 65) rfl))) (mvT hZ (hw _ (List.mem_of_getElem? (i := 66) rfl))) (mvT hZ (hw _ (List.mem_of_getElem? (i := 67) rfl))) (by decide) (backOf (W := 0) (rm9v64 l Z a0 hw [] i2 mr ki h0 n0 (Nat.le_trans Z0 (Keep.refl h0 [r0, I1, T1, F1]).1) M_ Svi20 Sei20) hZ (hw _ (List.mem_of_getElem? (i := 67) rfl)) (hw _ (List.mem_of_getElem? (i := 66) rfl)) (by decide) (by decide)) (g := (mkF m 30 #[rv r0, iv (64 : Int32), .unset, .unset, .unset, .unset, .unset, .unset] [(.int (128 : Int32)), (.ref i2)])) rfl (by rw [hml]; rfl) (argsL := [(.ref i2), (.int (128 : Int32))]) (rest := []) (lenOf pd7 rfl) rfl (by show 2 * 0 + _ ≤ _; exact Nat.le_of_eq rfl) (hb hby d7_30) (fun _ _ => ⟨rfl, e6, (by decide : 0 + 1 ≤ _), (by decide : 0 + 128 ≤ _)⟩)
  dsimp only [Pt.U, Pt.locs, Pt.cells, Pt.slots] at X9 l9 y9 z9 st9 hQ9
  subst l9 y9 z9
  obtain ⟨y9, ky9, rfl, N9q, Kc9, hy9, Vy9, Ey9, Oy9⟩ := hQ9
  have N9 := Fr.app N2 N9q
  have K9 : Keep h0 T9.heap [r0, I1, T1, F1] := (Keep.refl h0 [r0, I1, T1, F1]).trans Kc9 all0
  have g_y9 : n0 ≤ y9 := Nat.le_trans (Nat.le_trans Z0 (Keep.refl h0 [r0, I1, T1, F1]).1) hy9
  have sz_y9 : h0.size ≤ y9 := Nat.le_trans (Keep.refl h0 [r0, I1, T1, F1]).1 hy9
  have pre10 : ∀ t, Steps p.tables e below (T9.setTop (mkF m 35 #[rv r0, iv (64 : Int32), rv y9, .unset, .unset, .unset, .unset, .unset] [(.ref r0)])) t → Steps p.tables e below (s₁.setTop (entryFrame m #[(.ref r0)] 8)) t := by
    intro t kt
    refine pre8 _ ?_
    show Steps p.tables e below (T6.setTop (mkF m 30 #[rv r0, iv (64 : Int32), .unset, .unset, .unset, .unset, .unset, .unset] [(.int (128 : Int32)), (.ref i2)])) _
    refine st9 _ ?_
    show Steps p.tables e below (T9.setTop (mkF m 33 #[rv r0, iv (64 : Int32), .unset, .unset, .unset, .unset, .unset, .unset] [(.ref y9)])) _
    refine XS.astoreN X9.here hx rfl (hb hby d7_33) rfl rfl (l' := #[rv r0, iv (64 : Int32), rv y9, .unset, .unset, .unset, .unset, .unset]) rfl ?_
    refine XS.aloadN X9.here hx rfl (hb hby d7_34) rfl rfl ?_
    exact kt
  obtain ⟨T11, X11, e11, st11⟩ := getF X9 hx hZ hown (host := "") (Or.inl (hw _ (List.mem_of_getElem? (i := 33) rfl))) Via.refl rfl (Sca0.keep Kc9 nin0) (g := (mkF m 35 #[rv r0, iv (64 : Int32), rv y9, .unset, .unset, .unset, .unset, .unset] [(.ref r0)])) rfl rfl (hb hby d7_35)
  have pre12 : ∀ t, Steps p.tables e below (T11.setTop (mkF m 50 #[rv r0, iv (64 : Int32), rv y9, .unset, .unset, .unset, .unset, .unset] [(.ref r0)])) t → Steps p.tables e below (s₁.setTop (entryFrame m #[(.ref r0)] 8)) t := by
    intro t kt
    refine pre10 _ ?_
    show Steps p.tables e below (T9.setTop (mkF m 35 #[rv r0, iv (64 : Int32), rv y9, .unset, .unset, .unset, .unset, .unset] [(.ref r0)])) _
    refine st11 _ ?_
    show Steps p.tables e below (T11.setTop (mkF m 38 #[rv r0, iv (64 : Int32), rv y9, .unset, .unset, .unset, .unset, .unset] [(.int (32 : Int32))])) _
    refine XS.ifYes X11.here hx rfl (pc0 := 38) (pc' := 49) rfl (hb hby d7_38) rfl ((if0 _ _).trans (feq (by decide)).2) (by decide) (by decide) ?_
    refine XS.aloadN X11.here hx rfl (hb hby d7_49) rfl rfl ?_
    exact kt
  obtain ⟨T13, X13, e13, st13⟩ := getF X11 hx hZ hown (host := "") (Or.inl (hw _ (List.mem_of_getElem? (i := 15) rfl))) Via.refl e11 (Sti0.keep Kc9 nin0) (g := (mkF m 50 #[rv r0, iv (64 : Int32), rv y9, .unset, .unset, .unset, .unset, .unset] [(.ref r0)])) rfl rfl (hb hby d7_50)
  obtain ⟨cl14, Ar14, q14, S14, M14, H14, G14⟩ := id (SvT10.keep Kc9 nin0)
  have hin14 : ¬ ((0 : Int32) < 0 ∨ cl14.slots.size ≤ ((0 : Int32)).toNatClampNeg) := inb_of S14 ⟨by decide, by decide⟩
  have hat14 : cl14.slots[((0 : Int32)).toNatClampNeg]? = some (.ref t2) := H14.at hin14 rfl
  have pre15 : ∀ t, Steps p.tables e below (T13.setTop (mkF m 58 #[rv r0, iv (64 : Int32), rv y9, .unset, .unset, .unset, .unset, .unset] [(.int (128 : Int32)), (.ref t2)])) t → Steps p.tables e below (s₁.setTop (entryFrame m #[(.ref r0)] 8)) t := by
    intro t kt
    refine pre12 _ ?_
    show Steps p.tables e below (T11.setTop (mkF m 50 #[rv r0, iv (64 : Int32), rv y9, .unset, .unset, .unset, .unset, .unset] [(.ref r0)])) _
    refine st13 _ ?_
    show Steps p.tables e below (T13.setTop (mkF m 53 #[rv r0, iv (64 : Int32), rv y9, .unset, .unset, .unset, .unset, .unset] [(.ref T1)])) _
    refine XS.iconst X13.here hx rfl (hb hby d7_53) ?_
    refine X13.aaload hx (j := (0 : Int32)) (v := (.ref t2)) (by rw [e13]; exact Ar14.1) (State.isArrayOf_alike hZ.alike Ar14.2.1) rfl Ar14.2.2 hin14 hat14 (g := (mkF m 54 #[rv r0, iv (64 : Int32), rv y9, .unset, .unset, .unset, .unset, .unset] [(.int (0 : Int32)), (.ref T1)])) rfl rfl (hb hby d7_54) _ ?_
    show Steps p.tables e below (T13.setTop (mkF m 55 #[rv r0, iv (64 : Int32), rv y9, .unset, .unset, .unset, .unset, .unset] [(.ref t2)])) _
    refine XS.iconst X13.here hx rfl (hb hby d7_55) ?_
    refine XS.iloadN X13.here hx rfl (hb hby d7_56) rfl ?_
    refine XS.imul X13.here hx rfl (hb hby d7_57) rfl ?_
    show Steps p.tables e below (T13.setTop (mkF m 58 #[rv r0, iv (64 : Int32), rv y9, .unset, .unset, .unset, .unset, .unset] [(.int ((2 : Int32) * (64 : Int32))), (.ref t2)])) _
    rw [show ((2 : Int32) * (64 : Int32)) = (128 : Int32) from (by decide)]
    exact kt
  obtain ⟨_, _, ⟨T16, L16, k16, n16⟩, -, X16, ⟨Lc16, hQ16, l16, y16, z16⟩, st16⟩ := Jvm.LawKit.callS X13 hx (y := (⟨"java/util/Arrays", "copyOf", "([JI)[J"⟩ : MethodName)) hown (mvT hZ (hw _ (List.mem_of_getElem? (i := 86) rfl))) (mvT hZ (hw _ (List.mem_of_getElem? (i := 87) rfl))) (mvT hZ (hw _ (List.mem_of_getElem? (i := 66) rfl))) (mvT hZ (hw _ (List.mem_of_getElem? (i := 88) rfl))) (by decide) (backOf (W := 0) (rm12v64 l Z a0 hw [] t2 kt T9.heap n0 (Nat.le_trans Z0 K9.1) (Svt20.keep Kc9 nin0)) hZ (hw _ (List.mem_of_getElem? (i := 88) rfl)) (hw _ (List.mem_of_getElem? (i := 66) rfl)) (by decide) (by decide)) (g := (mkF m 58 #[rv r0, iv (64 : Int32), rv y9, .unset, .unset, .unset, .unset, .unset] [(.int (128 : Int32)), (.ref t2)])) rfl (by rw [hml]; rfl) (argsL := [(.ref t2), (.int (128 : Int32))]) (rest := []) (lenOf pd8 rfl) rfl (by show 2 * 0 + _ ≤ _; exact Nat.le_of_eq rfl) (hb hby d7_58) (fun _ _ => ⟨rfl, e13, (by decide : 1 + 1 ≤ _), (by decide : 128 + 128 ≤ _)⟩)
  dsimp only [Pt.U, Pt.locs, Pt.cells, Pt.slots] at X16 l16 y16 z16 st16 hQ16
  subst l16 y16 z16
  obtain ⟨y16, ky16, rfl, N16q, Kc16, hy16, Vy16, Ey16⟩ := hQ16
  have N16 := Fr.app N9 N16q
  have K16 : Keep h0 T16.heap [r0, I1, T1, F1] := K9.trans Kc16 all0
  have g_y16 : n0 ≤ y16 := Nat.le_trans (Nat.le_trans Z0 K9.1) hy16
  have sz_y16 : h0.size ≤ y16 := Nat.le_trans K9.1 hy16
  have pre17 : ∀ t, Steps p.tables e below (T16.setTop (mkF m 63 #[rv r0, iv (64 : Int32), rv y9, rv y16, .unset, .unset, .unset, .unset] [(.ref r0)])) t → Steps p.tables e below (s₁.setTop (entryFrame m #[(.ref r0)] 8)) t := by
    intro t kt
    refine pre15 _ ?_
    show Steps p.tables e below (T13.setTop (mkF m 58 #[rv r0, iv (64 : Int32), rv y9, .unset, .unset, .unset, .unset, .unset] [(.int (128 : Int32)), (.ref t2)])) _
    refine st16 _ ?_
    show Steps p.tables e below (T16.setTop (mkF m 61 #[rv r0, iv (64 : Int32), rv y9, .unset, .unset, .unset, .unset, .unset] [(.ref y16)])) _
    refine XS.astoreN X16.here hx rfl (hb hby d7_61) rfl rfl (l' := #[rv r0, iv (64 : Int32), rv y9, rv y16, .unset, .unset, .unset, .unset]) rfl ?_
    refine XS.aloadN X16.here hx rfl (hb hby d7_62) rfl rfl ?_
    exact kt
  obtain ⟨T18, X18, e18, st18⟩ := getF X16 hx hZ hown (host := "") (Or.inl (hw _ (List.mem_of_getElem? (i := 33) rfl))) Via.refl rfl ((Sca0.keep Kc9 nin0).keep Kc16 nin0) (g := (mkF m 63 #[rv r0, iv (64 : Int32), rv y9, rv y16, .unset, .unset, .unset, .unset] [(.ref r0)])) rfl rfl (hb hby d7_63)
  have pre19 : ∀ t, Steps p.tables e below (T18.setTop (mkF m 76 #[rv r0, iv (64 : Int32), rv y9, rv y16, .unset, .unset, .unset, .unset] [(.ref r0)])) t → Steps p.tables e below (s₁.setTop (entryFrame m #[(.ref r0)] 8)) t := by
    intro t kt
    refine pre17 _ ?_
    show Steps p.tables e below (T16.setTop (mkF m 63 #[rv r0, iv (64 : Int32), rv y9, rv y16, .unset, .unset, .unset, .unset] [(.ref r0)])) _
    refine st18 _ ?_
    show Steps p.tables e below (T18.setTop (mkF m 66 #[rv r0, iv (64 : Int32), rv y9, rv y16, .unset, .unset, .unset, .unset] [(.int (32 : Int32))])) _
    refine XS.ifYes X18.here hx rfl (pc0 := 66) (pc' := 75) rfl (hb hby d7_66) rfl ((if0 _ _).trans (feq (by decide)).2) (by decide) (by decide) ?_
    refine XS.aloadN X18.here hx rfl (hb hby d7_75) rfl rfl ?_
    exact kt
  obtain ⟨T20, X20, e20, st20⟩ := getF X18 hx hZ hown (host := "") (Or.inl (hw _ (List.mem_of_getElem? (i := 19) rfl))) Via.refl e18 ((Sfl0.keep Kc9 nin0).keep Kc16 nin0) (g := (mkF m 76 #[rv r0, iv (64 : Int32), rv y9, rv y16, .unset, .unset, .unset, .unset] [(.ref r0)])) rfl rfl (hb hby d7_76)
  obtain ⟨cl21, Ar21, q21, S21, M21, H21, G21⟩ := id ((SvF10.keep Kc9 nin0).keep Kc16 nin0)
  have hin21 : ¬ ((0 : Int32) < 0 ∨ cl21.slots.size ≤ ((0 : Int32)).toNatClampNeg) := inb_of S21 ⟨by decide, by decide⟩
  have hat21 : cl21.slots[((0 : Int32)).toNatClampNeg]? = some (.ref f2) := H21.at hin21 rfl
  have pre22 : ∀ t, Steps p.tables e below (T20.setTop (mkF m 82 #[rv r0, iv (64 : Int32), rv y9, rv y16, .unset, .unset, .unset, .unset] [(.int (64 : Int32)), (.ref f2)])) t → Steps p.tables e below (s₁.setTop (entryFrame m #[(.ref r0)] 8)) t := by
    intro t kt
    refine pre19 _ ?_
    show Steps p.tables e below (T18.setTop (mkF m 76 #[rv r0, iv (64 : Int32), rv y9, rv y16, .unset, .unset, .unset, .unset] [(.ref r0)])) _
    refine st20 _ ?_
    show Steps p.tables e below (T20.setTop (mkF m 79 #[rv r0, iv (64 : Int32), rv y9, rv y16, .unset, .unset, .unset, .unset] [(.ref F1)])) _
    refine XS.iconst X20.here hx rfl (hb hby d7_79) ?_
    refine X20.aaload hx (j := (0 : Int32)) (v := (.ref f2)) (by rw [e20]; exact Ar21.1) (State.isArrayOf_alike hZ.alike Ar21.2.1) rfl Ar21.2.2 hin21 hat21 (g := (mkF m 80 #[rv r0, iv (64 : Int32), rv y9, rv y16, .unset, .unset, .unset, .unset] [(.int (0 : Int32)), (.ref F1)])) rfl rfl (hb hby d7_80) _ ?_
    show Steps p.tables e below (T20.setTop (mkF m 81 #[rv r0, iv (64 : Int32), rv y9, rv y16, .unset, .unset, .unset, .unset] [(.ref f2)])) _
    refine XS.iloadN X20.here hx rfl (hb hby d7_81) rfl ?_
    exact kt
  obtain ⟨_, _, ⟨T23, L23, k23, n23⟩, -, X23, ⟨Lc23, hQ23, l23, y23, z23⟩, st23⟩ := Jvm.LawKit.callS X20 hx (y := (⟨"java/util/Arrays", "copyOf", "([BI)[B"⟩ : MethodName)) hown (mvT hZ (hw _ (List.mem_of_getElem? (i := 89) rfl))) (mvT hZ (hw _ (List.mem_of_getElem? (i := 90) rfl))) (mvT hZ (hw _ (List.mem_of_getElem? (i := 66) rfl))) (mvT hZ (hw _ (List.mem_of_getElem? (i := 91) rfl))) (by decide) (backOf (W := 0) (rm13v32 l Z a0 hw [] f2 kf T16.heap n0 (Nat.le_trans Z0 K16.1) ((Svf20.keep Kc9 nin0).keep Kc16 nin0)) hZ (hw _ (List.mem_of_getElem? (i := 91) rfl)) (hw _ (List.mem_of_getElem? (i := 66) rfl)) (by decide) (by decide)) (g := (mkF m 82 #[rv r0, iv (64 : Int32), rv y9, rv y16, .unset, .unset, .unset, .unset] [(.int (64 : Int32)), (.ref f2)])) rfl (by rw [hml]; rfl) (argsL := [(.ref f2), (.int (64 : Int32))]) (rest := []) (lenOf pd9 rfl) rfl (by show 2 * 0 + _ ≤ _; exact Nat.le_of_eq rfl) (hb hby d7_82) (fun _ _ => ⟨rfl, e20, (by decide : 2 + 1 ≤ _), (by decide : 256 + 64 ≤ _)⟩)
  dsimp only [Pt.U, Pt.locs, Pt.cells, Pt.slots] at X23 l23 y23 z23 st23 hQ23
  subst l23 y23 z23
  obtain ⟨y23, ky23, rfl, N23q, Kc23, hy23, Vy23, Ey23⟩ := hQ23
  have N23 := Fr.app N16 N23q
  have K23 : Keep h0 T23.heap [r0, I1, T1, F1] := K16.trans Kc23 all0
  have g_y23 : n0 ≤ y23 := Nat.le_trans (Nat.le_trans Z0 K16.1) hy23
  have sz_y23 : h0.size ≤ y23 := Nat.le_trans K16.1 hy23
  have pre24 : ∀ t, Steps p.tables e below (T23.setTop (mkF m 88 #[rv r0, iv (64 : Int32), rv y9, rv y16, rv y23, .unset, .unset, .unset] [(.ref r0)])) t → Steps p.tables e below (s₁.setTop (entryFrame m #[(.ref r0)] 8)) t := by
    intro t kt
    refine pre22 _ ?_
    show Steps p.tables e below (T20.setTop (mkF m 82 #[rv r0, iv (64 : Int32), rv y9, rv y16, .unset, .unset, .unset, .unset] [(.int (64 : Int32)), (.ref f2)])) _
    refine st23 _ ?_
    show Steps p.tables e below (T23.setTop (mkF m 85 #[rv r0, iv (64 : Int32), rv y9, rv y16, .unset, .unset, .unset, .unset] [(.ref y23)])) _
    refine XS.astore X23.here hx rfl (hb hby d7_85) rfl rfl (l' := #[rv r0, iv (64 : Int32), rv y9, rv y16, rv y23, .unset, .unset, .unset]) rfl ?_
    refine XS.aloadN X23.here hx rfl (hb hby d7_87) rfl rfl ?_
    exact kt
  obtain ⟨T25, X25, e25, st25⟩ := getF X23 hx hZ hown (host := "") (Or.inl (hw _ (List.mem_of_getElem? (i := 33) rfl))) Via.refl rfl (((Sca0.keep Kc9 nin0).keep Kc16 nin0).keep Kc23 nin0) (g := (mkF m 88 #[rv r0, iv (64 : Int32), rv y9, rv y16, rv y23, .unset, .unset, .unset] [(.ref r0)])) rfl rfl (hb hby d7_88)
  have pre26 : ∀ t, Steps p.tables e below (T25.setTop (mkF m 102 #[rv r0, iv (64 : Int32), rv y9, rv y16, rv y23, .unset, .unset, .unset] [(.ref r0)])) t → Steps p.tables e below (s₁.setTop (entryFrame m #[(.ref r0)] 8)) t := by
    intro t kt
    refine pre24 _ ?_
    show Steps p.tables e below (T23.setTop (mkF m 88 #[rv r0, iv (64 : Int32), rv y9, rv y16, rv y23, .unset, .unset, .unset] [(.ref r0)])) _
    refine st25 _ ?_
    show Steps p.tables e below (T25.setTop (mkF m 91 #[rv r0, iv (64 : Int32), rv y9, rv y16, rv y23, .unset, .unset, .unset] [(.int (32 : Int32))])) _
    refine XS.ifYes X25.here hx rfl (pc0 := 91) (pc' := 101) rfl (hb hby d7_91) rfl ((if0 _ _).trans (feq (by decide)).2) (by decide) (by decide) ?_
    refine XS.aloadN X25.here hx rfl (hb hby d7_101) rfl rfl ?_
    exact kt
  obtain ⟨T27, X27, e27, st27⟩ := getF X25 hx hZ hown (host := "") (Or.inl (hw _ (List.mem_of_getElem? (i := 11) rfl))) Via.refl e25 (((Sit0.keep Kc9 nin0).keep Kc16 nin0).keep Kc23 nin0) (g := (mkF m 102 #[rv r0, iv (64 : Int32), rv y9, rv y16, rv y23, .unset, .unset, .unset] [(.ref r0)])) rfl rfl (hb hby d7_102)
  have pre28 : ∀ t, Steps p.tables e below (T27.setTop (mkF m 108 #[rv r0, iv (64 : Int32), rv y9, rv y16, rv y23, rv I1, .unset, .unset] [(.ref r0)])) t → Steps p.tables e below (s₁.setTop (entryFrame m #[(.ref r0)] 8)) t := by
    intro t kt
    refine pre26 _ ?_
    show Steps p.tables e below (T25.setTop (mkF m 102 #[rv r0, iv (64 : Int32), rv y9, rv y16, rv y23, .unset, .unset, .unset] [(.ref r0)])) _
    refine st27 _ ?_
    show Steps p.tables e below (T27.setTop (mkF m 105 #[rv r0, iv (64 : Int32), rv y9, rv y16, rv y23, .unset, .unset, .unset] [(.ref I1)])) _
    refine XS.astore X27.here hx rfl (hb hby d7_105) rfl rfl (l' := #[rv r0, iv (64 : Int32), rv y9, rv y16, rv y23, rv I1, .unset, .unset]) rfl ?_
    refine XS.aloadN X27.here hx rfl (hb hby d7_107) rfl rfl ?_
    exact kt
  obtain ⟨T29, X29, e29, st29⟩ := getF X27 hx hZ hown (host := "") (Or.inl (hw _ (List.mem_of_getElem? (i := 33) rfl))) Via.refl e27 (((Sca0.keep Kc9 nin0).keep Kc16 nin0).keep Kc23 nin0) (g := (mkF m 108 #[rv r0, iv (64 : Int32), rv y9, rv y16, rv y23, rv I1, .unset, .unset] [(.ref r0)])) rfl rfl (hb hby d7_108)
  have pre30 : ∀ t, Steps p.tables e below (T29.setTop (mkF m 122 #[rv r0, iv (64 : Int32), rv y9, rv y16, rv y23, rv I1, .unset, .unset] [(.ref r0)])) t → Steps p.tables e below (s₁.setTop (entryFrame m #[(.ref r0)] 8)) t := by
    intro t kt
    refine pre28 _ ?_
    show Steps p.tables e below (T27.setTop (mkF m 108 #[rv r0, iv (64 : Int32), rv y9, rv y16, rv y23, rv I1, .unset, .unset] [(.ref r0)])) _
    refine st29 _ ?_
    show Steps p.tables e below (T29.setTop (mkF m 111 #[rv r0, iv (64 : Int32), rv y9, rv y16, rv y23, rv I1, .unset, .unset] [(.int (32 : Int32))])) _
    refine XS.ifYes X29.here hx rfl (pc0 := 111) (pc' := 121) rfl (hb hby d7_111) rfl ((if0 _ _).trans (feq (by decide)).2) (by decide) (by decide) ?_
    refine XS.aloadN X29.here hx rfl (hb hby d7_121) rfl rfl ?_
    exact kt
  obtain ⟨T31, X31, e31, st31⟩ := getF X29 hx hZ hown (host := "") (Or.inl (hw _ (List.mem_of_getElem? (i := 15) rfl))) Via.refl e29 (((Sti0.keep Kc9 nin0).keep Kc16 nin0).keep Kc23 nin0) (g := (mkF m 122 #[rv r0, iv (64 : Int32), rv y9, rv y16, rv y23, rv I1, .unset, .unset] [(.ref r0)])) rfl rfl (hb hby d7_122)
  have pre32 : ∀ t, Steps p.tables e below (T31.setTop (mkF m 128 #[rv r0, iv (64 : Int32), rv y9, rv y16, rv y23, rv I1, rv T1, .unset] [(.ref r0)])) t → Steps p.tables e below (s₁.setTop (entryFrame m #[(.ref r0)] 8)) t := by
    intro t kt
    refine pre30 _ ?_
    show Steps p.tables e below (T29.setTop (mkF m 122 #[rv r0, iv (64 : Int32), rv y9, rv y16, rv y23, rv I1, .unset, .unset] [(.ref r0)])) _
    refine st31 _ ?_
    show Steps p.tables e below (T31.setTop (mkF m 125 #[rv r0, iv (64 : Int32), rv y9, rv y16, rv y23, rv I1, .unset, .unset] [(.ref T1)])) _
    refine XS.astore X31.here hx rfl (hb hby d7_125) rfl rfl (l' := #[rv r0, iv (64 : Int32), rv y9, rv y16, rv y23, rv I1, rv T1, .unset]) rfl ?_
    refine XS.aloadN X31.here hx rfl (hb hby d7_127) rfl rfl ?_
    exact kt
  obtain ⟨T33, X33, e33, st33⟩ := getF X31 hx hZ hown (host := "") (Or.inl (hw _ (List.mem_of_getElem? (i := 33) rfl))) Via.refl e31 (((Sca0.keep Kc9 nin0).keep Kc16 nin0).keep Kc23 nin0) (g := (mkF m 128 #[rv r0, iv (64 : Int32), rv y9, rv y16, rv y23, rv I1, rv T1, .unset] [(.ref r0)])) rfl rfl (hb hby d7_128)
  have pre34 : ∀ t, Steps p.tables e below (T33.setTop (mkF m 142 #[rv r0, iv (64 : Int32), rv y9, rv y16, rv y23, rv I1, rv T1, .unset] [(.ref r0)])) t → Steps p.tables e below (s₁.setTop (entryFrame m #[(.ref r0)] 8)) t := by
    intro t kt
    refine pre32 _ ?_
    show Steps p.tables e below (T31.setTop (mkF m 128 #[rv r0, iv (64 : Int32), rv y9, rv y16, rv y23, rv I1, rv T1, .unset] [(.ref r0)])) _
    refine st33 _ ?_
    show Steps p.tables e below (T33.setTop (mkF m 131 #[rv r0, iv (64 : Int32), rv y9, rv y16, rv y23, rv I1, rv T1, .unset] [(.int (32 : Int32))])) _
    refine XS.ifYes X33.here hx rfl (pc0 := 131) (pc' := 141) rfl (hb hby d7_131) rfl ((if0 _ _).trans (feq (by decide)).2) (by decide) (by decide) ?_
    refine XS.aloadN X33.here hx rfl (hb hby d7_141) rfl rfl ?_
    exact kt
  obtain ⟨T35, X35, e35, st35⟩ := getF X33 hx hZ hown (host := "") (Or.inl (hw _ (List.mem_of_getElem? (i := 19) rfl))) Via.refl e33 (((Sfl0.keep Kc9 nin0).keep Kc16 nin0).keep Kc23 nin0) (g := (mkF m 142 #[rv r0, iv (64 : Int32), rv y9, rv y16, rv y23, rv I1, rv T1, .unset] [(.ref r0)])) rfl rfl (hb hby d7_142)
  have pre36 : ∀ t, Steps p.tables e below (T35.setTop (mkF m 151 #[rv r0, iv (64 : Int32), rv y9, rv y16, rv y23, rv I1, rv T1, rv F1] [(.ref y9), (.int (0 : Int32)), (.ref I1)])) t → Steps p.tables e below (s₁.setTop (entryFrame m #[(.ref r0)] 8)) t := by
    intro t kt
    refine pre34 _ ?_
    show Steps p.tables e below (T33.setTop (mkF m 142 #[rv r0, iv (64 : Int32), rv y9, rv y16, rv y23, rv I1, rv T1, .unset] [(.ref r0)])) _
    refine st35 _ ?_
    show Steps p.tables e below (T35.setTop (mkF m 145 #[rv r0, iv (64 : Int32), rv y9, rv y16, rv y23, rv I1, rv T1, .unset] [(.ref F1)])) _
    refine XS.astore X35.here hx rfl (hb hby d7_145) rfl rfl (l' := #[rv r0, iv (64 : Int32), rv y9, rv y16, rv y23, rv I1, rv T1, rv F1]) rfl ?_
    refine XS.aload X35.here hx rfl (hb hby d7_147) rfl rfl ?_
    refine XS.iconst X35.here hx rfl (hb hby d7_149) ?_
    refine XS.aloadN X35.here hx rfl (hb hby d7_150) rfl rfl ?_
    exact kt
  obtain ⟨cl37, Ar37, q37, S37, M37, H37, G37⟩ := id (((SvI10.keep Kc9 nin0).keep Kc16 nin0).keep Kc23 nin0)
  have hin37 : ¬ ((0 : Int32) < 0 ∨ cl37.slots.size ≤ ((0 : Int32)).toNatClampNeg) := inb_of S37 ⟨by decide, by decide⟩
  obtain ⟨T37, h37, X37, e37, W37, st37⟩ := stR X35 hx hZ e35 Ar37 (j := (0 : Int32)) hin37 rfl (Sto.ofVA Ar37 q37 SoI10 (Ins.self ((Ey9.keep Kc16).keep Kc23))) (g := (mkF m 151 #[rv r0, iv (64 : Int32), rv y9, rv y16, rv y23, rv I1, rv T1, rv F1] [(.ref y9), (.int (0 : Int32)), (.ref I1)])) rfl rfl (hb hby d7_151)
  have V37 : Arv Z h37 I1 kI (.array (.object "java/lang/Object")) (1 : Int32) [(.ref y9)] .null := Arv.set Ar37 q37 S37 M37 H37 G37 rfl W37 0 rfl (Nat.le_of_ble_eq_true rfl)
  have K37 : Keep h0 h37 [r0, I1, T1, F1] := K23.wr W37 (Or.inl (List.mem_of_getElem? (i := 1) rfl))
  have N37 := Fr.snoc X37 N23 g_I1
  have pre38 : ∀ t, Steps p.tables e below (T37.setTop (mkF m 156 #[rv r0, iv (64 : Int32), rv y9, rv y16, rv y23, rv I1, rv T1, rv F1] [(.ref y16), (.int (0 : Int32)), (.ref T1)])) t → Steps p.tables e below (s₁.setTop (entryFrame m #[(.ref r0)] 8)) t := by
    intro t kt
    refine pre36 _ ?_
    show Steps p.tables e below (T35.setTop (mkF m 151 #[rv r0, iv (64 : Int32), rv y9, rv y16, rv y23, rv I1, rv T1, rv F1] [(.ref y9), (.int (0 : Int32)), (.ref I1)])) _
    refine st37 _ ?_
    show Steps p.tables e below (T37.setTop (mkF m 152 #[rv r0, iv (64 : Int32), rv y9, rv y16, rv y23, rv I1, rv T1, rv F1] [])) _
    refine XS.aload X37.here hx rfl (hb hby d7_152) rfl rfl ?_
    refine XS.iconst X37.here hx rfl (hb hby d7_154) ?_
    refine XS.aloadN X37.here hx rfl (hb hby d7_155) rfl rfl ?_
    exact kt
  obtain ⟨cl39, Ar39, q39, S39, M39, H39, G39⟩ := id ((((SvT10.keep Kc9 nin0).keep Kc16 nin0).keep Kc23 nin0).other W37 (Exa.ne ((((SeT10.keep Kc9).keep Kc16).keep Kc23).wr W37) ((((SeI10.keep Kc9).keep Kc16).keep Kc23).wr W37) (by decide)))
  have hin39 : ¬ ((0 : Int32) < 0 ∨ cl39.slots.size ≤ ((0 : Int32)).toNatClampNeg) := inb_of S39 ⟨by decide, by decide⟩
  obtain ⟨T39, h39, X39, e39, W39, st39⟩ := stR X37 hx hZ e37 Ar39 (j := (0 : Int32)) hin39 rfl (Sto.ofVA Ar39 q39 SoT10 (Ins.self ((Ey16.keep Kc23).wr W37))) (g := (mkF m 156 #[rv r0, iv (64 : Int32), rv y9, rv y16, rv y23, rv I1, rv T1, rv F1] [(.ref y16), (.int (0 : Int32)), (.ref T1)])) rfl rfl (hb hby d7_156)
  have V39 : Arv Z h39 T1 kT (.array .long) (1 : Int32) [(.ref y16)] .null := Arv.set Ar39 q39 S39 M39 H39 G39 rfl W39 0 rfl (Nat.le_of_ble_eq_true rfl)
  have K39 : Keep h0 h39 [r0, I1, T1, F1] := K37.wr W39 (Or.inl (List.mem_of_getElem? (i := 2) rfl))
  have N39 := Fr.snoc X39 N37 g_T1
  have pre40 : ∀ t, Steps p.tables e below (T39.setTop (mkF m 162 #[rv r0, iv (64 : Int32), rv y9, rv y16, rv y23, rv I1, rv T1, rv F1] [(.ref y23), (.int (0 : Int32)), (.ref F1)])) t → Steps p.tables e below (s₁.setTop (entryFrame m #[(.ref r0)] 8)) t := by
    intro t kt
    refine pre38 _ ?_
    show Steps p.tables e below (T37.setTop (mkF m 156 #[rv r0, iv (64 : Int32), rv y9, rv y16, rv y23, rv I1, rv T1, rv F1] [(.ref y16), (.int (0 : Int32)), (.ref T1)])) _
    refine st39 _ ?_
    show Steps p.tables e below (T39.setTop (mkF m 157 #[rv r0, iv (64 : Int32), rv y9, rv y16, rv y23, rv I1, rv T1, rv F1] [])) _
    refine XS.aload X39.here hx rfl (hb hby d7_157) rfl rfl ?_
    refine XS.iconst X39.here hx rfl (hb hby d7_159) ?_
    refine XS.aload X39.here hx rfl (hb hby d7_160) rfl rfl ?_
    exact kt
  obtain ⟨cl41, Ar41, q41, S41, M41, H41, G41⟩ := id (((((SvF10.keep Kc9 nin0).keep Kc16 nin0).keep Kc23 nin0).other W37 (Exa.ne (((((SeF10.keep Kc9).keep Kc16).keep Kc23).wr W37).wr W39) (((((SeI10.keep Kc9).keep Kc16).keep Kc23).wr W37).wr W39) (by decide))).other W39 (Exa.ne (((((SeF10.keep Kc9).keep Kc16).keep Kc23).wr W37).wr W39) (((((SeT10.keep Kc9).keep Kc16).keep Kc23).wr W37).wr W39) (by decide)))
  have hin41 : ¬ ((0 : Int32) < 0 ∨ cl41.slots.size ≤ ((0 : Int32)).toNatClampNeg) := inb_of S41 ⟨by decide, by decide⟩
  obtain ⟨T41, h41, X41, e41, W41, st41⟩ := stR X39 hx hZ e39 Ar41 (j := (0 : Int32)) hin41 rfl (Sto.ofVA Ar41 q41 SoF10 (Ins.self ((Ey23.wr W37).wr W39))) (g := (mkF m 162 #[rv r0, iv (64 : Int32), rv y9, rv y16, rv y23, rv I1, rv T1, rv F1] [(.ref y23), (.int (0 : Int32)), (.ref F1)])) rfl rfl (hb hby d7_162)
  have V41 : Arv Z h41 F1 kF (.array .byte) (1 : Int32) [(.ref y23)] .null := Arv.set Ar41 q41 S41 M41 H41 G41 rfl W41 0 rfl (Nat.le_of_ble_eq_true rfl)
  have K41 : Keep h0 h41 [r0, I1, T1, F1] := K39.wr W41 (Or.inl (List.mem_of_getElem? (i := 3) rfl))
  have N41 := Fr.snoc X41 N39 g_F1
  have pre42 : ∀ t, Steps p.tables e below (T41.setTop (mkF m 166 #[rv r0, iv (64 : Int32), rv y9, rv y16, rv y23, rv I1, rv T1, rv F1] [(.ref I1), (.ref r0)])) t → Steps p.tables e below (s₁.setTop (entryFrame m #[(.ref r0)] 8)) t := by
    intro t kt
    refine pre40 _ ?_
    show Steps p.tables e below (T39.setTop (mkF m 162 #[rv r0, iv (64 : Int32), rv y9, rv y16, rv y23, rv I1, rv T1, rv F1] [(.ref y23), (.int (0 : Int32)), (.ref F1)])) _
    refine st41 _ ?_
    show Steps p.tables e below (T41.setTop (mkF m 163 #[rv r0, iv (64 : Int32), rv y9, rv y16, rv y23, rv I1, rv T1, rv F1] [])) _
    refine XS.aloadN X41.here hx rfl (hb hby d7_163) rfl rfl ?_
    refine XS.aload X41.here hx rfl (hb hby d7_164) rfl rfl ?_
    exact kt
  obtain ⟨T43, h43, X43, e43, W43, st43⟩ := putF X41 hx hZ hown (host := "") (Or.inl (hw _ (List.mem_of_getElem? (i := 11) rfl))) Via.refl e41 ((((((Sit0.keep Kc9 nin0).keep Kc16 nin0).keep Kc23 nin0).other W37 (Or.inl (Exa.ne ((((((E_r0.keep Kc9).keep Kc16).keep Kc23).wr W37).wr W39).wr W41) ((((((SeI10.keep Kc9).keep Kc16).keep Kc23).wr W37).wr W39).wr W41) (by decide)))).other W39 (Or.inl (Exa.ne ((((((E_r0.keep Kc9).keep Kc16).keep Kc23).wr W37).wr W39).wr W41) ((((((SeT10.keep Kc9).keep Kc16).keep Kc23).wr W37).wr W39).wr W41) (by decide)))).other W41 (Or.inl (Exa.ne ((((((E_r0.keep Kc9).keep Kc16).keep Kc23).wr W37).wr W39).wr W41) ((((((SeF10.keep Kc9).keep Kc16).keep Kc23).wr W37).wr W39).wr W41) (by decide)))) ((((((E_r0.keep Kc9).keep Kc16).keep Kc23).wr W37).wr W39).wr W41) (Or.inl (hw _ (List.mem_of_getElem? (i := 12) rfl))) (hw _ (List.mem_of_getElem? (i := 1) rfl)) (ty := (.array (.array (.object "java/lang/Object")))) (by decide) rfl rfl (g := (mkF m 166 #[rv r0, iv (64 : Int32), rv y9, rv y16, rv y23, rv I1, rv T1, rv F1] [(.ref I1), (.ref r0)])) rfl rfl (hb hby d7_166)
  have Fw43 : Fld Z h43 r0 "com/example/loopsmith/loopsmith/queue/Slots" "items" "[[Ljava/lang/Object;" (.ref I1) := ((((((Sit0.keep Kc9 nin0).keep Kc16 nin0).keep Kc23 nin0).other W37 (Or.inl (Exa.ne ((((((E_r0.keep Kc9).keep Kc16).keep Kc23).wr W37).wr W39).wr W41) ((((((SeI10.keep Kc9).keep Kc16).keep Kc23).wr W37).wr W39).wr W41) (by decide)))).other W39 (Or.inl (Exa.ne ((((((E_r0.keep Kc9).keep Kc16).keep Kc23).wr W37).wr W39).wr W41) ((((((SeT10.keep Kc9).keep Kc16).keep Kc23).wr W37).wr W39).wr W41) (by decide)))).other W41 (Or.inl (Exa.ne ((((((E_r0.keep Kc9).keep Kc16).keep Kc23).wr W37).wr W39).wr W41) ((((((SeF10.keep Kc9).keep Kc16).keep Kc23).wr W37).wr W39).wr W41) (by decide)))).same W43
  have K43 : Keep h0 h43 [r0, I1, T1, F1] := K41.wr W43 (Or.inl (List.mem_of_getElem? (i := 0) rfl))
  have N43 := Fr.snoc X43 N41 g_r0
  have pre44 : ∀ t, Steps p.tables e below (T43.setTop (mkF m 172 #[rv r0, iv (64 : Int32), rv y9, rv y16, rv y23, rv I1, rv T1, rv F1] [(.ref T1), (.ref r0)])) t → Steps p.tables e below (s₁.setTop (entryFrame m #[(.ref r0)] 8)) t := by
    intro t kt
    refine pre42 _ ?_
    show Steps p.tables e below (T41.setTop (mkF m 166 #[rv r0, iv (64 : Int32), rv y9, rv y16, rv y23, rv I1, rv T1, rv F1] [(.ref I1), (.ref r0)])) _
    refine st43 _ ?_
    show Steps p.tables e below (T43.setTop (mkF m 169 #[rv r0, iv (64 : Int32), rv y9, rv y16, rv y23, rv I1, rv T1, rv F1] [])) _
    refine XS.aloadN X43.here hx rfl (hb hby d7_169) rfl rfl ?_
    refine XS.aload X43.here hx rfl (hb hby d7_170) rfl rfl ?_
    exact kt
  obtain ⟨T45, h45, X45, e45, W45, st45⟩ := putF X43 hx hZ hown (host := "") (Or.inl (hw _ (List.mem_of_getElem? (i := 15) rfl))) Via.refl e43 (((((((Sti0.keep Kc9 nin0).keep Kc16 nin0).keep Kc23 nin0).other W37 (Or.inl (Exa.ne (((((((E_r0.keep Kc9).keep Kc16).keep Kc23).wr W37).wr W39).wr W41).wr W43) (((((((SeI10.keep Kc9).keep Kc16).keep Kc23).wr W37).wr W39).wr W41).wr W43) (by decide)))).other W39 (Or.inl (Exa.ne (((((((E_r0.keep Kc9).keep Kc16).keep Kc23).wr W37).wr W39).wr W41).wr W43) (((((((SeT10.keep Kc9).keep Kc16).keep Kc23).wr W37).wr W39).wr W41).wr W43) (by decide)))).other W41 (Or.inl (Exa.ne (((((((E_r0.keep Kc9).keep Kc16).keep Kc23).wr W37).wr W39).wr W41).wr W43) (((((((SeF10.keep Kc9).keep Kc16).keep Kc23).wr W37).wr W39).wr W41).wr W43) (by decide)))).other W43 (Or.inr (slot_ne (Or.inl (hw _ (List.mem_of_getElem? (i := 16) rfl))) (Or.inl (hw _ (List.mem_of_getElem? (i := 12) rfl))) (by decide) (t := (.array (.array .long))) (t' := (.array (.array (.object "java/lang/Object")))) (by decide) (by decide)))) (((((((E_r0.keep Kc9).keep Kc16).keep Kc23).wr W37).wr W39).wr W41).wr W43) (Or.inl (hw _ (List.mem_of_getElem? (i := 16) rfl))) (hw _ (List.mem_of_getElem? (i := 1) rfl)) (ty := (.array (.array .long))) (by decide) rfl rfl (g := (mkF m 172 #[rv r0, iv (64 : Int32), rv y9, rv y16, rv y23, rv I1, rv T1, rv F1] [(.ref T1), (.ref r0)])) rfl rfl (hb hby d7_172)
  have Fw45 : Fld Z h45 r0 "com/example/loopsmith/loopsmith/queue/Slots" "times" "[[J" (.ref T1) := (((((((Sti0.keep Kc9 nin0).keep Kc16 nin0).keep Kc23 nin0).other W37 (Or.inl (Exa.ne (((((((E_r0.keep Kc9).keep Kc16).keep Kc23).wr W37).wr W39).wr W41).wr W43) (((((((SeI10.keep Kc9).keep Kc16).keep Kc23).wr W37).wr W39).wr W41).wr W43) (by decide)))).other W39 (Or.inl (Exa.ne (((((((E_r0.keep Kc9).keep Kc16).keep Kc23).wr W37).wr W39).wr W41).wr W43) (((((((SeT10.keep Kc9).keep Kc16).keep Kc23).wr W37).wr W39).wr W41).wr W43) (by decide)))).other W41 (Or.inl (Exa.ne (((((((E_r0.keep Kc9).keep Kc16).keep Kc23).wr W37).wr W39).wr W41).wr W43) (((((((SeF10.keep Kc9).keep Kc16).keep Kc23).wr W37).wr W39).wr W41).wr W43) (by decide)))).other W43 (Or.inr (slot_ne (Or.inl (hw _ (List.mem_of_getElem? (i := 16) rfl))) (Or.inl (hw _ (List.mem_of_getElem? (i := 12) rfl))) (by decide) (t := (.array (.array .long))) (t' := (.array (.array (.object "java/lang/Object")))) (by decide) (by decide)))).same W45
  have K45 : Keep h0 h45 [r0, I1, T1, F1] := K43.wr W45 (Or.inl (List.mem_of_getElem? (i := 0) rfl))
  have N45 := Fr.snoc X45 N43 g_r0
  have pre46 : ∀ t, Steps p.tables e below (T45.setTop (mkF m 178 #[rv r0, iv (64 : Int32), rv y9, rv y16, rv y23, rv I1, rv T1, rv F1] [(.ref F1), (.ref r0)])) t → Steps p.tables e below (s₁.setTop (entryFrame m #[(.ref r0)] 8)) t := by
    intro t kt
    refine pre44 _ ?_
    show Steps p.tables e below (T43.setTop (mkF m 172 #[rv r0, iv (64 : Int32), rv y9, rv y16, rv y23, rv I1, rv T1, rv F1] [(.ref T1), (.ref r0)])) _
    refine st45 _ ?_
    show Steps p.tables e below (T45.setTop (mkF m 175 #[rv r0, iv (64 : Int32), rv y9, rv y16, rv y23, rv I1, rv T1, rv F1] [])) _
    refine XS.aloadN X45.here hx rfl (hb hby d7_175) rfl rfl ?_
    refine XS.aload X45.here hx rfl (hb hby d7_176) rfl rfl ?_
    exact kt
  obtain ⟨T47, h47, X47, e47, W47, st47⟩ := putF X45 hx hZ hown (host := "") (Or.inl (hw _ (List.mem_of_getElem? (i := 19) rfl))) Via.refl e45 ((((((((Sfl0.keep Kc9 nin0).keep Kc16 nin0).keep Kc23 nin0).other W37 (Or.inl (Exa.ne ((((((((E_r0.keep Kc9).keep Kc16).keep Kc23).wr W37).wr W39).wr W41).wr W43).wr W45) ((((((((SeI10.keep Kc9).keep Kc16).keep Kc23).wr W37).wr W39).wr W41).wr W43).wr W45) (by decide)))).other W39 (Or.inl (Exa.ne ((((((((E_r0.keep Kc9).keep Kc16).keep Kc23).wr W37).wr W39).wr W41).wr W43).wr W45) ((((((((SeT10.keep Kc9).keep Kc16).keep Kc23).wr W37).wr W39).wr W41).wr W43).wr W45) (by decide)))).other W41 (Or.inl (Exa.ne ((((((((E_r0.keep Kc9).keep Kc16).keep Kc23).wr W37).wr W39).wr W41).wr W43).wr W45) ((((((((SeF10.keep Kc9).keep Kc16).keep Kc23).wr W37).wr W39).wr W41).wr W43).wr W45) (by decide)))).other W43 (Or.inr (slot_ne (Or.inl (hw _ (List.mem_of_getElem? (i := 20) rfl))) (Or.inl (hw _ (List.mem_of_getElem? (i := 12) rfl))) (by decide) (t := (.array (.array .byte))) (t' := (.array (.array (.object "java/lang/Object")))) (by decide) (by decide)))).other W45 (Or.inr (slot_ne (Or.inl (hw _ (List.mem_of_getElem? (i := 20) rfl))) (Or.inl (hw _ (List.mem_of_getElem? (i := 16) rfl))) (by decide) (t := (.array (.array .byte))) (t' := (.array (.array .long))) (by decide) (by decide)))) ((((((((E_r0.keep Kc9).keep Kc16).keep Kc23).wr W37).wr W39).wr W41).wr W43).wr W45) (Or.inl (hw _ (List.mem_of_getElem? (i := 20) rfl))) (hw _ (List.mem_of_getElem? (i := 1) rfl)) (ty := (.array (.array .byte))) (by decide) rfl rfl (g := (mkF m 178 #[rv r0, iv (64 : Int32), rv y9, rv y16, rv y23, rv I1, rv T1, rv F1] [(.ref F1), (.ref r0)])) rfl rfl (hb hby d7_178)
  have Fw47 : Fld Z h47 r0 "com/example/loopsmith/loopsmith/queue/Slots" "flags" "[[B" (.ref F1) := ((((((((Sfl0.keep Kc9 nin0).keep Kc16 nin0).keep Kc23 nin0).other W37 (Or.inl (Exa.ne ((((((((E_r0.keep Kc9).keep Kc16).keep Kc23).wr W37).wr W39).wr W41).wr W43).wr W45) ((((((((SeI10.keep Kc9).keep Kc16).keep Kc23).wr W37).wr W39).wr W41).wr W43).wr W45) (by decide)))).other W39 (Or.inl (Exa.ne ((((((((E_r0.keep Kc9).keep Kc16).keep Kc23).wr W37).wr W39).wr W41).wr W43).wr W45) ((((((((SeT10.keep Kc9).keep Kc16).keep Kc23).wr W37).wr W39).wr W41).wr W43).wr W45) (by decide)))).other W41 (Or.inl (Exa.ne ((((((((E_r0.keep Kc9).keep Kc16).keep Kc23).wr W37).wr W39).wr W41).wr W43).wr W45) ((((((((SeF10.keep Kc9).keep Kc16).keep Kc23).wr W37).wr W39).wr W41).wr W43).wr W45) (by decide)))).other W43 (Or.inr (slot_ne (Or.inl (hw _ (List.mem_of_getElem? (i := 20) rfl))) (Or.inl (hw _ (List.mem_of_getElem? (i := 12) rfl))) (by decide) (t := (.array (.array .byte))) (t' := (.array (.array (.object "java/lang/Object")))) (by decide) (by decide)))).other W45 (Or.inr (slot_ne (Or.inl (hw _ (List.mem_of_getElem? (i := 20) rfl))) (Or.inl (hw _ (List.mem_of_getElem? (i := 16) rfl))) (by decide) (t := (.array (.array .byte))) (t' := (.array (.array .long))) (by decide) (by decide)))).same W47
  have K47 : Keep h0 h47 [r0, I1, T1, F1] := K45.wr W47 (Or.inl (List.mem_of_getElem? (i := 0) rfl))
  have N47 := Fr.snoc X47 N45 g_r0
  have pre48 : ∀ t, Steps p.tables e below (T47.setTop (mkF m 183 #[rv r0, iv (64 : Int32), rv y9, rv y16, rv y23, rv I1, rv T1, rv F1] [(.int (1 : Int32)), (.ref r0)])) t → Steps p.tables e below (s₁.setTop (entryFrame m #[(.ref r0)] 8)) t := by
    intro t kt
    refine pre46 _ ?_
    show Steps p.tables e below (T45.setTop (mkF m 178 #[rv r0, iv (64 : Int32), rv y9, rv y16, rv y23, rv I1, rv T1, rv F1] [(.ref F1), (.ref r0)])) _
    refine st47 _ ?_
    show Steps p.tables e below (T47.setTop (mkF m 181 #[rv r0, iv (64 : Int32), rv y9, rv y16, rv y23, rv I1, rv T1, rv F1] [])) _
    refine XS.aloadN X47.here hx rfl (hb hby d7_181) rfl rfl ?_
    refine XS.iconst X47.here hx rfl (hb hby d7_182) ?_
    exact kt
  obtain ⟨T49, h49, X49, e49, W49, st49⟩ := putF X47 hx hZ hown (host := "") (Or.inl (hw _ (List.mem_of_getElem? (i := 62) rfl))) Via.refl e47 (((((((((Sbl0.keep Kc9 nin0).keep Kc16 nin0).keep Kc23 nin0).other W37 (Or.inl (Exa.ne (((((((((E_r0.keep Kc9).keep Kc16).keep Kc23).wr W37).wr W39).wr W41).wr W43).wr W45).wr W47) (((((((((SeI10.keep Kc9).keep Kc16).keep Kc23).wr W37).wr W39).wr W41).wr W43).wr W45).wr W47) (by decide)))).other W39 (Or.inl (Exa.ne (((((((((E_r0.keep Kc9).keep Kc16).keep Kc23).wr W37).wr W39).wr W41).wr W43).wr W45).wr W47) (((((((((SeT10.keep Kc9).keep Kc16).keep Kc23).wr W37).wr W39).wr W41).wr W43).wr W45).wr W47) (by decide)))).other W41 (Or.inl (Exa.ne (((((((((E_r0.keep Kc9).keep Kc16).keep Kc23).wr W37).wr W39).wr W41).wr W43).wr W45).wr W47) (((((((((SeF10.keep Kc9).keep Kc16).keep Kc23).wr W37).wr W39).wr W41).wr W43).wr W45).wr W47) (by decide)))).other W43 (Or.inr (slot_ne (Or.inl (hw _ (List.mem_of_getElem? (i := 63) rfl))) (Or.inl (hw _ (List.mem_of_getElem? (i := 12) rfl))) (by decide) (t := .int) (t' := (.array (.array (.object "java/lang/Object")))) (by decide) (by decide)))).other W45 (Or.inr (slot_ne (Or.inl (hw _ (List.mem_of_getElem? (i := 63) rfl))) (Or.inl (hw _ (List.mem_of_getElem? (i := 16) rfl))) (by decide) (t := .int) (t' := (.array (.array .long))) (by decide) (by decide)))).other W47 (Or.inr (slot_ne (Or.inl (hw _ (List.mem_of_getElem? (i := 63) rfl))) (Or.inl (hw _ (List.mem_of_getElem? (i := 20) rfl))) (by decide) (t := .int) (t' := (.array (.array .byte))) (by decide) (by decide)))) (((((((((E_r0.keep Kc9).keep Kc16).keep Kc23).wr W37).wr W39).wr W41).wr W43).wr W45).wr W47) (Or.inl (hw _ (List.mem_of_getElem? (i := 63) rfl))) (hw _ (List.mem_of_getElem? (i := 1) rfl)) (ty := .int) (by decide) rfl rfl (g := (mkF m 183 #[rv r0, iv (64 : Int32), rv y9, rv y16, rv y23, rv I1, rv T1, rv F1] [(.int (1 : Int32)), (.ref r0)])) rfl rfl (hb hby d7_183)
  have Fw49 : Fld Z h49 r0 "com/example/loopsmith/loopsmith/queue/Slots" "blocks" "I" (.int (1 : Int32)) := (((((((((Sbl0.keep Kc9 nin0).keep Kc16 nin0).keep Kc23 nin0).other W37 (Or.inl (Exa.ne (((((((((E_r0.keep Kc9).keep Kc16).keep Kc23).wr W37).wr W39).wr W41).wr W43).wr W45).wr W47) (((((((((SeI10.keep Kc9).keep Kc16).keep Kc23).wr W37).wr W39).wr W41).wr W43).wr W45).wr W47) (by decide)))).other W39 (Or.inl (Exa.ne (((((((((E_r0.keep Kc9).keep Kc16).keep Kc23).wr W37).wr W39).wr W41).wr W43).wr W45).wr W47) (((((((((SeT10.keep Kc9).keep Kc16).keep Kc23).wr W37).wr W39).wr W41).wr W43).wr W45).wr W47) (by decide)))).other W41 (Or.inl (Exa.ne (((((((((E_r0.keep Kc9).keep Kc16).keep Kc23).wr W37).wr W39).wr W41).wr W43).wr W45).wr W47) (((((((((SeF10.keep Kc9).keep Kc16).keep Kc23).wr W37).wr W39).wr W41).wr W43).wr W45).wr W47) (by decide)))).other W43 (Or.inr (slot_ne (Or.inl (hw _ (List.mem_of_getElem? (i := 63) rfl))) (Or.inl (hw _ (List.mem_of_getElem? (i := 12) rfl))) (by decide) (t := .int) (t' := (.array (.array (.object "java/lang/Object")))) (by decide) (by decide)))).other W45 (Or.inr (slot_ne (Or.inl (hw _ (List.mem_of_getElem? (i := 63) rfl))) (Or.inl (hw _ (List.mem_of_getElem? (i := 16) rfl))) (by decide) (t := .int) (t' := (.array (.array .long))) (by decide) (by decide)))).other W47 (Or.inr (slot_ne (Or.inl (hw _ (List.mem_of_getElem? (i := 63) rfl))) (Or.inl (hw _ (List.mem_of_getElem? (i := 20) rfl))) (by decide) (t := .int) (t' := (.array (.array .byte))) (by decide) (by decide)))).same W49
  have K49 : Keep h0 h49 [r0, I1, T1, F1] := K47.wr W49 (Or.inl (List.mem_of_getElem? (i := 0) rfl))
  have N49 := Fr.snoc X49 N47 g_r0
  have pre50 : ∀ t, Steps p.tables e below (T49.setTop (mkF m 188 #[rv r0, iv (64 : Int32), rv y9, rv y16, rv y23, rv I1, rv T1, rv F1] [(.int (64 : Int32)), (.ref r0)])) t → Steps p.tables e below (s₁.setTop (entryFrame m #[(.ref r0)] 8)) t := by
    intro t kt
    refine pre48 _ ?_
    show Steps p.tables e below (T47.setTop (mkF m 183 #[rv r0, iv (64 : Int32), rv y9, rv y16, rv y23, rv I1, rv T1, rv F1] [(.int (1 : Int32)), (.ref r0)])) _
    refine st49 _ ?_
    show Steps p.tables e below (T49.setTop (mkF m 186 #[rv r0, iv (64 : Int32), rv y9, rv y16, rv y23, rv I1, rv T1, rv F1] [])) _
    refine XS.aloadN X49.here hx rfl (hb hby d7_186) rfl rfl ?_
    refine XS.iloadN X49.here hx rfl (hb hby d7_187) rfl ?_
    exact kt
  obtain ⟨T51, h51, X51, e51, W51, st51⟩ := putF X49 hx hZ hown (host := "") (Or.inl (hw _ (List.mem_of_getElem? (i := 33) rfl))) Via.refl e49 ((((((((((Sca0.keep Kc9 nin0).keep Kc16 nin0).keep Kc23 nin0).other W37 (Or.inl (Exa.ne ((((((((((E_r0.keep Kc9).keep Kc16).keep Kc23).wr W37).wr W39).wr W41).wr W43).wr W45).wr W47).wr W49) ((((((((((SeI10.keep Kc9).keep Kc16).keep Kc23).wr W37).wr W39).wr W41).wr W43).wr W45).wr W47).wr W49) (by decide)))).other W39 (Or.inl (Exa.ne ((((((((((E_r0.keep Kc9).keep Kc16).keep Kc23).wr W37).wr W39).wr W41).wr W43).wr W45).wr W47).wr W49) ((((((((((SeT10.keep Kc9).keep Kc16).keep Kc23).wr W37).wr W39).wr W41).wr W43).wr W45).wr W47).wr W49) (by decide)))).other W41 (Or.inl (Exa.ne ((((((((((E_r0.keep Kc9).keep Kc16).keep Kc23).wr W37).wr W39).wr W41).wr W43).wr W45).wr W47).wr W49) ((((((((((SeF10.keep Kc9).keep Kc16).keep Kc23).wr W37).wr W39).wr W41).wr W43).wr W45).wr W47).wr W49) (by decide)))).other W43 (Or.inr (slot_ne (Or.inl (hw _ (List.mem_of_getElem? (i := 34) rfl))) (Or.inl (hw _ (List.mem_of_getElem? (i := 12) rfl))) (by decide) (t := .int) (t' := (.array (.array (.object "java/lang/Object")))) (by decide) (by decide)))).other W45 (Or.inr (slot_ne (Or.inl (hw _ (List.mem_of_getElem? (i := 34) rfl))) (Or.inl (hw _ (List.mem_of_getElem? (i := 16) rfl))) (by decide) (t := .int) (t' := (.array (.array .long))) (by decide) (by decide)))).other W47 (Or.inr (slot_ne (Or.inl (hw _ (List.mem_of_getElem? (i := 34) rfl))) (Or.inl (hw _ (List.mem_of_getElem? (i := 20) rfl))) (by decide) (t := .int) (t' := (.array (.array .byte))) (by decide) (by decide)))).other W49 (Or.inr (slot_ne (Or.inl (hw _ (List.mem_of_getElem? (i := 34) rfl))) (Or.inl (hw _ (List.mem_of_getElem? (i := 63) rfl))) (by decide) (t := .int) (t' := .int) (by decide) (by decide)))) ((((((((((E_r0.keep Kc9).keep Kc16).keep Kc23).wr W37).wr W39).wr W41).wr W43).wr W45).wr W47).wr W49) (Or.inl (hw _ (List.mem_of_getElem? (i := 34) rfl))) (hw _ (List.mem_of_getElem? (i := 1) rfl)) (ty := .int) (by decide) rfl rfl (g := (mkF m 188 #[rv r0, iv (64 : Int32), rv y9, rv y16, rv y23, rv I1, rv T1, rv F1] [(.int (64 : Int32)), (.ref r0)])) rfl rfl (hb hby d7_188)
  have Fw51 : Fld Z h51 r0 "com/example/loopsmith/loopsmith/queue/Slots" "capacity" "I" (.int (64 : Int32)) := ((((((((((Sca0.keep Kc9 nin0).keep Kc16 nin0).keep Kc23 nin0).other W37 (Or.inl (Exa.ne ((((((((((E_r0.keep Kc9).keep Kc16).keep Kc23).wr W37).wr W39).wr W41).wr W43).wr W45).wr W47).wr W49) ((((((((((SeI10.keep Kc9).keep Kc16).keep Kc23).wr W37).wr W39).wr W41).wr W43).wr W45).wr W47).wr W49) (by decide)))).other W39 (Or.inl (Exa.ne ((((((((((E_r0.keep Kc9).keep Kc16).keep Kc23).wr W37).wr W39).wr W41).wr W43).wr W45).wr W47).wr W49) ((((((((((SeT10.keep Kc9).keep Kc16).keep Kc23).wr W37).wr W39).wr W41).wr W43).wr W45).wr W47).wr W49) (by decide)))).other W41 (Or.inl (Exa.ne ((((((((((E_r0.keep Kc9).keep Kc16).keep Kc23).wr W37).wr W39).wr W41).wr W43).wr W45).wr W47).wr W49) ((((((((((SeF10.keep Kc9).keep Kc16).keep Kc23).wr W37).wr W39).wr W41).wr W43).wr W45).wr W47).wr W49) (by decide)))).other W43 (Or.inr (slot_ne (Or.inl (hw _ (List.mem_of_getElem? (i := 34) rfl))) (Or.inl (hw _ (List.mem_of_getElem? (i := 12) rfl))) (by decide) (t := .int) (t' := (.array (.array (.object "java/lang/Object")))) (by decide) (by decide)))).other W45 (Or.inr (slot_ne (Or.inl (hw _ (List.mem_of_getElem? (i := 34) rfl))) (Or.inl (hw _ (List.mem_of_getElem? (i := 16) rfl))) (by decide) (t := .int) (t' := (.array (.array .long))) (by decide) (by decide)))).other W47 (Or.inr (slot_ne (Or.inl (hw _ (List.mem_of_getElem? (i := 34) rfl))) (Or.inl (hw _ (List.mem_of_getElem? (i := 20) rfl))) (by decide) (t := .int) (t' := (.array (.array .byte))) (by decide) (by decide)))).other W49 (Or.inr (slot_ne (Or.inl (hw _ (List.mem_of_getElem? (i := 34) rfl))) (Or.inl (hw _ (List.mem_of_getElem? (i := 63) rfl))) (by decide) (t := .int) (t' := .int) (by decide) (by decide)))).same W51
  have K51 : Keep h0 h51 [r0, I1, T1, F1] := K49.wr W51 (Or.inl (List.mem_of_getElem? (i := 0) rfl))
  have N51 := Fr.snoc X51 N49 g_r0
  have pre52 : ∀ t, Steps p.tables e below (T51.setTop (mkF m 191 #[rv r0, iv (64 : Int32), rv y9, rv y16, rv y23, rv I1, rv T1, rv F1] [])) t → Steps p.tables e below (s₁.setTop (entryFrame m #[(.ref r0)] 8)) t := by
    intro t kt
    refine pre50 _ ?_
    show Steps p.tables e below (T49.setTop (mkF m 188 #[rv r0, iv (64 : Int32), rv y9, rv y16, rv y23, rv I1, rv T1, rv F1] [(.int (64 : Int32)), (.ref r0)])) _
    refine st51 _ ?_
    exact kt
  obtain ⟨fs, hr, hrun, hended, hW, hsame⟩ := X51.leave (v := none) (fun _ => rfl)
  refine ⟨_, _, pre52 _ ?_, hrun, hended, _, _, rfl, ?_, ⟨_, rfl⟩, hW, hsame.mono (by decide) (by decide)⟩
  · show Steps p.tables e below (T51.setTop (mkF m 191 #[rv r0, iv (64 : Int32), rv y9, rv y16, rv y23, rv I1, rv T1, rv F1] [])) _
    exact X51.returnOut hx Bd.returns (hb hby d7_191) hr
  · show Q7c32 Z r0 mr I1 T1 F1 i2 t2 f2 kI kT kF ki kt kf h0 n0 _ T51.heap _
    rw [e51]
    exact ⟨I1, T1, F1, y9, y16, y23, kI, kT, kF, ky9, ky16, ky23, rfl, N51, K51, ⟨g_I1, g_T1, g_F1, g_y9, g_y16, g_y23⟩, ⟨((((Fw43.other W45 (Or.inr (slot_ne (Or.inl (hw _ (List.mem_of_getElem? (i := 12) rfl))) (Or.inl (hw _ (List.mem_of_getElem? (i := 16) rfl))) (by decide) (t := (.array (.array (.object "java/lang/Object")))) (t' := (.array (.array .long))) (by decide) (by decide)))).other W47 (Or.inr (slot_ne (Or.inl (hw _ (List.mem_of_getElem? (i := 12) rfl))) (Or.inl (hw _ (List.mem_of_getElem? (i := 20) rfl))) (by decide) (t := (.array (.array (.object "java/lang/Object")))) (t' := (.array (.array .byte))) (by decide) (by decide)))).other W49 (Or.inr (slot_ne (Or.inl (hw _ (List.mem_of_getElem? (i := 12) rfl))) (Or.inl (hw _ (List.mem_of_getElem? (i := 63) rfl))) (by decide) (t := (.array (.array (.object "java/lang/Object")))) (t' := .int) (by decide) (by decide)))).other W51 (Or.inr (slot_ne (Or.inl (hw _ (List.mem_of_getElem? (i := 12) rfl))) (Or.inl (hw _ (List.mem_of_getElem? (i := 34) rfl))) (by decide) (t := (.array (.array (.object "java/lang/Object")))) (t' := .int) (by decide) (by decide)))), (((Fw45.other W47 (Or.inr (slot_ne (Or.inl (hw _ (List.mem_of_getElem? (i := 16) rfl))) (Or.inl (hw _ (List.mem_of_getElem? (i := 20) rfl))) (by decide) (t := (.array (.array .long))) (t' := (.array (.array .byte))) (by decide) (by decide)))).other W49 (Or.inr (slot_ne (Or.inl (hw _ (List.mem_of_getElem? (i := 16) rfl))) (Or.inl (hw _ (List.mem_of_getElem? (i := 63) rfl))) (by decide) (t := (.array (.array .long))) (t' := .int) (by decide) (by decide)))).other W51 (Or.inr (slot_ne (Or.inl (hw _ (List.mem_of_getElem? (i := 16) rfl))) (Or.inl (hw _ (List.mem_of_getElem? (i := 34) rfl))) (by decide) (t := (.array (.array .long))) (t' := .int) (by decide) (by decide)))), ((Fw47.other W49 (Or.inr (slot_ne (Or.inl (hw _ (List.mem_of_getElem? (i := 20) rfl))) (Or.inl (hw _ (List.mem_of_getElem? (i := 63) rfl))) (by decide) (t := (.array (.array .byte))) (t' := .int) (by decide) (by decide)))).other W51 (Or.inr (slot_ne (Or.inl (hw _ (List.mem_of_getElem? (i := 20) rfl))) (Or.inl (hw _ (List.mem_of_getElem? (i := 34) rfl))) (by decide) (t := (.array (.array .byte))) (t' := .int) (by decide) (by decide)))), ⟨_, (Fw49.other W51 (Or.inr (slot_ne (Or.inl (hw _ (List.mem_of_getElem? (i := 63) rfl))) (Or.inl (hw _ (List.mem_of_getElem? (i := 34) rfl))) (by decide) (t := .int) (t' := .int) (by decide) (by decide))))⟩, Fw51, (((((((((((SeI10.keep Kc9).keep Kc16).keep Kc23).wr W37).wr W39).wr W41).wr W43).wr W45).wr W47).wr W49).wr W51), (((((((((((SeT10.keep Kc9).keep Kc16).keep Kc23).wr W37).wr W39).wr W41).wr W43).wr W45).wr W47).wr W49).wr W51), (((((((((((SeF10.keep Kc9).keep Kc16).keep Kc23).wr W37).wr W39).wr W41).wr W43).wr W45).wr W47).wr W49).wr W51), ((((((((((Ey9.keep Kc16).keep Kc23).wr W37).wr W39).wr W41).wr W43).wr W45).wr W47).wr W49).wr W51), (((((((((Ey16.keep Kc23).wr W37).wr W39).wr W41).wr W43).wr W45).wr W47).wr W49).wr W51), ((((((((Ey23.wr W37).wr W39).wr W41).wr W43).wr W45).wr W47).wr W49).wr W51), (((((((V37.other W39 (Exa.ne (((((((((((SeI10.keep Kc9).keep Kc16).keep Kc23).wr W37).wr W39).wr W41).wr W43).wr W45).wr W47).wr W49).wr W51) (((((((((((SeT10.keep Kc9).keep Kc16).keep Kc23).wr W37).wr W39).wr W41).wr W43).wr W45).wr W47).wr W49).wr W51) (by decide))).other W41 (Exa.ne (((((((((((SeI10.keep Kc9).keep Kc16).keep Kc23).wr W37).wr W39).wr W41).wr W43).wr W45).wr W47).wr W49).wr W51) (((((((((((SeF10.keep Kc9).keep Kc16).keep Kc23).wr W37).wr W39).wr W41).wr W43).wr W45).wr W47).wr W49).wr W51) (by decide))).other W43 (Exa.ne (((((((((((SeI10.keep Kc9).keep Kc16).keep Kc23).wr W37).wr W39).wr W41).wr W43).wr W45).wr W47).wr W49).wr W51) (((((((((((E_r0.keep Kc9).keep Kc16).keep Kc23).wr W37).wr W39).wr W41).wr W43).wr W45).wr W47).wr W49).wr W51) (by decide))).other W45 (Exa.ne (((((((((((SeI10.keep Kc9).keep Kc16).keep Kc23).wr W37).wr W39).wr W41).wr W43).wr W45).wr W47).wr W49).wr W51) (((((((((((E_r0.keep Kc9).keep Kc16).keep Kc23).wr W37).wr W39).wr W41).wr W43).wr W45).wr W47).wr W49).wr W51) (by decide))).other W47 (Exa.ne (((((((((((SeI10.keep Kc9).keep Kc16).keep Kc23).wr W37).wr W39).wr W41).wr W43).wr W45).wr W47).wr W49).wr W51) (((((((((((E_r0.keep Kc9).keep Kc16).keep Kc23).wr W37).wr W39).wr W41).wr W43).wr W45).wr W47).wr W49).wr W51) (by decide))).other W49 (Exa.ne (((((((((((SeI10.keep Kc9).keep Kc16).keep Kc23).wr W37).wr W39).wr W41).wr W43).wr W45).wr W47).wr W49).wr W51) (((((((((((E_r0.keep Kc9).keep Kc16).keep Kc23).wr W37).wr W39).wr W41).wr W43).wr W45).wr W47).wr W49).wr W51) (by decide))).other W51 (Exa.ne (((((((((((SeI10.keep Kc9).keep Kc16).keep Kc23).wr W37).wr W39).wr W41).wr W43).wr W45).wr W47).wr W49).wr W51) (((((((((((E_r0.keep Kc9).keep Kc16).keep Kc23).wr W37).wr W39).wr W41).wr W43).wr W45).wr W47).wr W49).wr W51) (by decide))), ((((((V39.other W41 (Exa.ne (((((((((((SeT10.keep Kc9).keep Kc16).keep Kc23).wr W37).wr W39).wr W41).wr W43).wr W45).wr W47).wr W49).wr W51) (((((((((((SeF10.keep Kc9).keep Kc16).keep Kc23).wr W37).wr W39).wr W41).wr W43).wr W45).wr W47).wr W49).wr W51) (by decide))).other W43 (Exa.ne (((((((((((SeT10.keep Kc9).keep Kc16).keep Kc23).wr W37).wr W39).wr W41).wr W43).wr W45).wr W47).wr W49).wr W51) (((((((((((E_r0.keep Kc9).keep Kc16).keep Kc23).wr W37).wr W39).wr W41).wr W43).wr W45).wr W47).wr W49).wr W51) (by decide))).other W45 (Exa.ne (((((((((((SeT10.keep Kc9).keep Kc16).keep Kc23).wr W37).wr W39).wr W41).wr W43).wr W45).wr W47).wr W49).wr W51) (((((((((((E_r0.keep Kc9).keep Kc16).keep Kc23).wr W37).wr W39).wr W41).wr W43).wr W45).wr W47).wr W49).wr W51) (by decide))).other W47 (Exa.ne (((((((((((SeT10.keep Kc9).keep Kc16).keep Kc23).wr W37).wr W39).wr W41).wr W43).wr W45).wr W47).wr W49).wr W51) (((((((((((E_r0.keep Kc9).keep Kc16).keep Kc23).wr W37).wr W39).wr W41).wr W43).wr W45).wr W47).wr W49).wr W51) (by decide))).other W49 (Exa.ne (((((((((((SeT10.keep Kc9).keep Kc16).keep Kc23).wr W37).wr W39).wr W41).wr W43).wr W45).wr W47).wr W49).wr W51) (((((((((((E_r0.keep Kc9).keep Kc16).keep Kc23).wr W37).wr W39).wr W41).wr W43).wr W45).wr W47).wr W49).wr W51) (by decide))).other W51 (Exa.ne (((((((((((SeT10.keep Kc9).keep Kc16).keep Kc23).wr W37).wr W39).wr W41).wr W43).wr W45).wr W47).wr W49).wr W51) (((((((((((E_r0.keep Kc9).keep Kc16).keep Kc23).wr W37).wr W39).wr W41).wr W43).wr W45).wr W47).wr W49).wr W51) (by decide))), (((((V41.other W43 (Exa.ne (((((((((((SeF10.keep Kc9).keep Kc16).keep Kc23).wr W37).wr W39).wr W41).wr W43).wr W45).wr W47).wr W49).wr W51) (((((((((((E_r0.keep Kc9).keep Kc16).keep Kc23).wr W37).wr W39).wr W41).wr W43).wr W45).wr W47).wr W49).wr W51) (by decide))).other W45 (Exa.ne (((((((((((SeF10.keep Kc9).keep Kc16).keep Kc23).wr W37).wr W39).wr W41).wr W43).wr W45).wr W47).wr W49).wr W51) (((((((((((E_r0.keep Kc9).keep Kc16).keep Kc23).wr W37).wr W39).wr W41).wr W43).wr W45).wr W47).wr W49).wr W51) (by decide))).other W47 (Exa.ne (((((((((((SeF10.keep Kc9).keep Kc16).keep Kc23).wr W37).wr W39).wr W41).wr W43).wr W45).wr W47).wr W49).wr W51) (((((((((((E_r0.keep Kc9).keep Kc16).keep Kc23).wr W37).wr W39).wr W41).wr W43).wr W45).wr W47).wr W49).wr W51) (by decide))).other W49 (Exa.ne (((((((((((SeF10.keep Kc9).keep Kc16).keep Kc23).wr W37).wr W39).wr W41).wr W43).wr W45).wr W47).wr W49).wr W51) (((((((((((E_r0.keep Kc9).keep Kc16).keep Kc23).wr W37).wr W39).wr W41).wr W43).wr W45).wr W47).wr W49).wr W51) (by decide))).other W51 (Exa.ne (((((((((((SeF10.keep Kc9).keep Kc16).keep Kc23).wr W37).wr W39).wr W41).wr W43).wr W45).wr W47).wr W49).wr W51) (((((((((((E_r0.keep Kc9).keep Kc16).keep Kc23).wr W37).wr W39).wr W41).wr W43).wr W45).wr W47).wr W49).wr W51) (by decide))), ((((((((((Vy9.keep Kc16 nin0).keep Kc23 nin0).other W37 (Exa.ne ((((((((((Ey9.keep Kc16).keep Kc23).wr W37).wr W39).wr W41).wr W43).wr W45).wr W47).wr W49).wr W51) (((((((((((SeI10.keep Kc9).keep Kc16).keep Kc23).wr W37).wr W39).wr W41).wr W43).wr W45).wr W47).wr W49).wr W51) (by decide))).other W39 (Exa.ne ((((((((((Ey9.keep Kc16).keep Kc23).wr W37).wr W39).wr W41).wr W43).wr W45).wr W47).wr W49).wr W51) (((((((((((SeT10.keep Kc9).keep Kc16).keep Kc23).wr W37).wr W39).wr W41).wr W43).wr W45).wr W47).wr W49).wr W51) (by decide))).other W41 (Exa.ne ((((((((((Ey9.keep Kc16).keep Kc23).wr W37).wr W39).wr W41).wr W43).wr W45).wr W47).wr W49).wr W51) (((((((((((SeF10.keep Kc9).keep Kc16).keep Kc23).wr W37).wr W39).wr W41).wr W43).wr W45).wr W47).wr W49).wr W51) (by decide))).other W43 (Exa.ne ((((((((((Ey9.keep Kc16).keep Kc23).wr W37).wr W39).wr W41).wr W43).wr W45).wr W47).wr W49).wr W51) (((((((((((E_r0.keep Kc9).keep Kc16).keep Kc23).wr W37).wr W39).wr W41).wr W43).wr W45).wr W47).wr W49).wr W51) (by decide))).other W45 (Exa.ne ((((((((((Ey9.keep Kc16).keep Kc23).wr W37).wr W39).wr W41).wr W43).wr W45).wr W47).wr W49).wr W51) (((((((((((E_r0.keep Kc9).keep Kc16).keep Kc23).wr W37).wr W39).wr W41).wr W43).wr W45).wr W47).wr W49).wr W51) (by decide))).other W47 (Exa.ne ((((((((((Ey9.keep Kc16).keep Kc23).wr W37).wr W39).wr W41).wr W43).wr W45).wr W47).wr W49).wr W51) (((((((((((E_r0.keep Kc9).keep Kc16).keep Kc23).wr W37).wr W39).wr W41).wr W43).wr W45).wr W47).wr W49).wr W51) (by decide))).other W49 (Exa.ne ((((((((((Ey9.keep Kc16).keep Kc23).wr W37).wr W39).wr W41).wr W43).wr W45).wr W47).wr W49).wr W51) (((((((((((E_r0.keep Kc9).keep Kc16).keep Kc23).wr W37).wr W39).wr W41).wr W43).wr W45).wr W47).wr W49).wr W51) (by decide))).other W51 (Exa.ne ((((((((((Ey9.keep Kc16).keep Kc23).wr W37).wr W39).wr W41).wr W43).wr W45).wr W47).wr W49).wr W51) (((((((((((E_r0.keep Kc9).keep Kc16).keep Kc23).wr W37).wr W39).wr W41).wr W43).wr W45).wr W47).wr W49).wr W51) (by decide))), (((((((((Vy16.keep Kc23 nin0).other W37 (Exa.ne (((((((((Ey16.keep Kc23).wr W37).wr W39).wr W41).wr W43).wr W45).wr W47).wr W49).wr W51) (((((((((((SeI10.keep Kc9).keep Kc16).keep Kc23).wr W37).wr W39).wr W41).wr W43).wr W45).wr W47).wr W49).wr W51) (by decide))).other W39 (Exa.ne (((((((((Ey16.keep Kc23).wr W37).wr W39).wr W41).wr W43).wr W45).wr W47).wr W49).wr W51) (((((((((((SeT10.keep Kc9).keep Kc16).keep Kc23).wr W37).wr W39).wr W41).wr W43).wr W45).wr W47).wr W49).wr W51) (by decide))).other W41 (Exa.ne (((((((((Ey16.keep Kc23).wr W37).wr W39).wr W41).wr W43).wr W45).wr W47).wr W49).wr W51) (((((((((((SeF10.keep Kc9).keep Kc16).keep Kc23).wr W37).wr W39).wr W41).wr W43).wr W45).wr W47).wr W49).wr W51) (by decide))).other W43 (Exa.ne (((((((((Ey16.keep Kc23).wr W37).wr W39).wr W41).wr W43).wr W45).wr W47).wr W49).wr W51) (((((((((((E_r0.keep Kc9).keep Kc16).keep Kc23).wr W37).wr W39).wr W41).wr W43).wr W45).wr W47).wr W49).wr W51) (by decide))).other W45 (Exa.ne (((((((((Ey16.keep Kc23).wr W37).wr W39).wr W41).wr W43).wr W45).wr W47).wr W49).wr W51) (((((((((((E_r0.keep Kc9).keep Kc16).keep Kc23).wr W37).wr W39).wr W41).wr W43).wr W45).wr W47).wr W49).wr W51) (by decide))).other W47 (Exa.ne (((((((((Ey16.keep Kc23).wr W37).wr W39).wr W41).wr W43).wr W45).wr W47).wr W49).wr W51) (((((((((((E_r0.keep Kc9).keep Kc16).keep Kc23).wr W37).wr W39).wr W41).wr W43).wr W45).wr W47).wr W49).wr W51) (by decide))).other W49 (Exa.ne (((((((((Ey16.keep Kc23).wr W37).wr W39).wr W41).wr W43).wr W45).wr W47).wr W49).wr W51) (((((((((((E_r0.keep Kc9).keep Kc16).keep Kc23).wr W37).wr W39).wr W41).wr W43).wr W45).wr W47).wr W49).wr W51) (by decide))).other W51 (Exa.ne (((((((((Ey16.keep Kc23).wr W37).wr W39).wr W41).wr W43).wr W45).wr W47).wr W49).wr W51) (((((((((((E_r0.keep Kc9).keep Kc16).keep Kc23).wr W37).wr W39).wr W41).wr W43).wr W45).wr W47).wr W49).wr W51) (by decide))), ((((((((Vy23.other W37 (Exa.ne ((((((((Ey23.wr W37).wr W39).wr W41).wr W43).wr W45).wr W47).wr W49).wr W51) (((((((((((SeI10.keep Kc9).keep Kc16).keep Kc23).wr W37).wr W39).wr W41).wr W43).wr W45).wr W47).wr W49).wr W51) (by decide))).other W39 (Exa.ne ((((((((Ey23.wr W37).wr W39).wr W41).wr W43).wr W45).wr W47).wr W49).wr W51) (((((((((((SeT10.keep Kc9).keep Kc16).keep Kc23).wr W37).wr W39).wr W41).wr W43).wr W45).wr W47).wr W49).wr W51) (by decide))).other W41 (Exa.ne ((((((((Ey23.wr W37).wr W39).wr W41).wr W43).wr W45).wr W47).wr W49).wr W51) (((((((((((SeF10.keep Kc9).keep Kc16).keep Kc23).wr W37).wr W39).wr W41).wr W43).wr W45).wr W47).wr W49).wr W51) (by decide))).other W43 (Exa.ne ((((((((Ey23.wr W37).wr W39).wr W41).wr W43).wr W45).wr W47).wr W49).wr W51) (((((((((((E_r0.keep Kc9).keep Kc16).keep Kc23).wr W37).wr W39).wr W41).wr W43).wr W45).wr W47).wr W49).wr W51) (by decide))).other W45 (Exa.ne ((((((((Ey23.wr W37).wr W39).wr W41).wr W43).wr W45).wr W47).wr W49).wr W51) (((((((((((E_r0.keep Kc9).keep Kc16).keep Kc23).wr W37).wr W39).wr W41).wr W43).wr W45).wr W47).wr W49).wr W51) (by decide))).other W47 (Exa.ne ((((((((Ey23.wr W37).wr W39).wr W41).wr W43).wr W45).wr W47).wr W49).wr W51) (((((((((((E_r0.keep Kc9).keep Kc16).keep Kc23).wr W37).wr W39).wr W41).wr W43).wr W45).wr W47).wr W49).wr W51) (by decide))).other W49 (Exa.ne ((((((((Ey23.wr W37).wr W39).wr W41).wr W43).wr W45).wr W47).wr W49).wr W51) (((((((((((E_r0.keep Kc9).keep Kc16).keep Kc23).wr W37).wr W39).wr W41).wr W43).wr W45).wr W47).wr W49).wr W51) (by decide))).other W51 (Exa.ne ((((((((Ey23.wr W37).wr W39).wr W41).wr W43).wr W45).wr W47).wr W49).wr W51) (((((((((((E_r0.keep Kc9).keep Kc16).keep Kc23).wr W37).wr W39).wr W41).wr W43).wr W45).wr W47).wr W49).wr W51) (by decide))), SoI10, SoT10, SoF10, Oy9⟩⟩

theorem ef_6c32 (m : MethodId) (x0 : Addr) : entryFrame m #[(.ref x0)] 1 = mkF m 0 #[.val (.ref x0)] [] := by first | (simp [entryFrame, mkF, argsToLocals, Value.category]; done) | rfl
def Q6c32 (Z : State) (r0 : Addr) (mr : Addr) (I1 : Addr) (T1 : Addr) (F1 : Addr) (i2 : Addr) (t2 : Addr) (f2 : Addr) (kI : ClassId) (kT : ClassId) (kF : ClassId) (ki : ClassId) (kt : ClassId) (kf : ClassId) (h0 : Heap) (n0 : Nat) (v : Option Value) (h : Heap) (L : List Loc) : Prop := ∃ zI1 zT1 zF1 zi2 zt2 zf2 : Addr, ∃ zkI zkT zkF zki zkt zkf : ClassId, v = none ∧ Fr n0 L ∧ Keep h0 h [r0, I1, T1, F1] ∧ (n0 ≤ zI1 ∧ n0 ≤ zT1 ∧ n0 ≤ zF1 ∧ n0 ≤ zi2 ∧ n0 ≤ zt2 ∧ n0 ≤ zf2) ∧ own_Sl Z h r0 zI1 zT1 zF1 zi2 zt2 zf2 zkI zkT zkF zki zkt zkf (64 : Int32) (128 : Int32)
set_option maxRecDepth 65536 in
set_option maxHeartbeats 40000000 in
theorem rm6c32 (l : Launch) (Z : State) (a0 : Array Value) (hw : ∀ d ∈ tables_1, d.before a0 Z = true) (ws : List Jvm.Cond) (r0 : Addr) (mr : Addr) (I1 : Addr) (T1 : Addr) (F1 : Addr) (i2 : Addr) (t2 : Addr) (f2 : Addr) (kI : ClassId) (kT : ClassId) (kF : ClassId) (ki : ClassId) (kt : ClassId) (kf : ClassId) (h0 : Heap) (n0 : Nat) (Z0 : n0 ≤ h0.size) (M_ : Mir Z "[Ljava/lang/Object;" mr) (SL : own_Sl Z h0 r0 I1 T1 F1 i2 t2 f2 kI kT kF ki kt kf (32 : Int32) (64 : Int32)) (E_r0 : Exa Z h0 r0 "com/example/loopsmith/loopsmith/queue/Slots") (g_r0 : n0 ≤ r0) (g_I1 : n0 ≤ I1) (g_T1 : n0 ≤ T1) (g_F1 : n0 ≤ F1) (g_i2 : n0 ≤ i2) (g_t2 : n0 ≤ t2) (g_f2 : n0 ≤ f2) :
    MetFree l (⟨"com/example/loopsmith/loopsmith/queue/Slots", "grow", "()V"⟩ : MethodName) (head1 (Jvm.Cond.code (⟨"com/example/loopsmith/loopsmith/queue/Slots", "grow", "()V"⟩ : MethodName) prog_42_method_4_code 1 none :: ws) ({ frames := 4, cells := 3, slots := 320, locals := 65 } : Room)) (fun a U => a = #[(.ref r0)] ∧ Z.Warmed39 U.vm ∧ U.heap = h0) (fun _ _ _ _ _ => True) (fun _ U o U' => ∃ v L, o = .returned v ∧ Q6c32 Z r0 mr I1 T1 F1 i2 t2 f2 kI kT kF ki kt kf h0 n0 v U'.heap L ∧ FrameEnd U o U' L ({ frames := 4, cells := 3, slots := 320, locals := 65 } : Room).cells ({ frames := 4, cells := 3, slots := 320, locals := 65 } : Room).slots) := by
  refine MetFree.of_bodySF (plainFor_of_name pn4) hisR ?_
  intro p e s m args below meth c s₁ Bd hml0 hP hK
  obtain ⟨rfl, hZ, hh⟩ := hP
  have hx := Bd.exec
  have hby := Bd.bytes
  have hml : c.maxLocals = 1 := hml0
  have hown : s.vm.findClass "com/example/loopsmith/loopsmith/queue/Slots" = some m.cls := findClass_of_methodNamed Bd.named
  have hnm := (name_of_methodNamed Bd.named Bd.method).1
  have X0 : Stand p l e ({ frames := 4, cells := 3, slots := 320, locals := 65 } : Room) s m #[(.ref r0)] below meth c s₁ [] 0 0 := Stand.of_body Bd
  have e0 : s₁.heap = h0 := by rw [← hh, Bd.state]; rfl
  have N0 := Fr.nil n0
  have pre0 : ∀ t, Steps p.tables e below (s₁.setTop (mkF m 0 #[rv r0] [])) t → Steps p.tables e below (s₁.setTop (entryFrame m #[(.ref r0)] 1)) t := fun t k => castTop (ef_6c32 m r0) k
  obtain ⟨Sit0, Sti0, Sfl0, ⟨wb0, Sbl0⟩, Sca0, SeI10, SeT10, SeF10, Sei20, Set20, Sef20, SvI10, SvT10, SvF10, Svi20, Svt20, Svf20, SoI10, SoT10, SoF10, Soi20⟩ := id SL
  have pre1 : ∀ t, Steps p.tables e below (s₁.setTop (mkF m 1 #[rv r0] [(.ref r0)])) t → Steps p.tables e below (s₁.setTop (entryFrame m #[(.ref r0)] 1)) t := by
    intro t kt
    refine pre0 _ ?_
    show Steps p.tables e below (s₁.setTop (mkF m 0 #[rv r0] [])) _
    refine XS.aloadN X0.here hx rfl (hb hby d6_0) rfl rfl ?_
    exact kt
  obtain ⟨T2, X2, e2, st2⟩ := getF X0 hx hZ hown (host := "") (Or.inl (hw _ (List.mem_of_getElem? (i := 33) rfl))) Via.refl e0 Sca0 (g := (mkF m 1 #[rv r0] [(.ref r0)])) rfl rfl (hb hby d6_1)
  have pre3 : ∀ t, Steps p.tables e below (T2.setTop (mkF m 20 #[rv r0] [(.ref r0)])) t → Steps p.tables e below (s₁.setTop (entryFrame m #[(.ref r0)] 1)) t := by
    intro t kt
    refine pre1 _ ?_
    show Steps p.tables e below (s₁.setTop (mkF m 1 #[rv r0] [(.ref r0)])) _
    refine st2 _ ?_
    show Steps p.tables e below (T2.setTop (mkF m 4 #[rv r0] [(.int (32 : Int32))])) _
    refine X2.ldcInt hx hown (mvT hZ (hw _ (List.mem_of_getElem? (i := 45) rfl))) (g := (mkF m 4 #[rv r0] [(.int (32 : Int32))])) rfl (hb hby d6_4) _ ?_
    show Steps p.tables e below (T2.setTop (mkF m 6 #[rv r0] [(.int (536870912 : Int32)), (.int (32 : Int32))])) _
    refine XS.icmpYes X2.here hx rfl (pc0 := 6) (pc' := 19) rfl (hb hby d6_6) rfl (feq (by decide)).2 (by decide) (by decide) ?_
    refine XS.aloadN X2.here hx rfl (hb hby d6_19) rfl rfl ?_
    exact kt
  obtain ⟨T4, X4, e4, st4⟩ := getF X2 hx hZ hown (host := "") (Or.inl (hw _ (List.mem_of_getElem? (i := 33) rfl))) Via.refl e2 Sca0 (g := (mkF m 20 #[rv r0] [(.ref r0)])) rfl rfl (hb hby d6_20)
  have pre5 : ∀ t, Steps p.tables e below (T4.setTop (mkF m 30 #[rv r0] [(.ref r0)])) t → Steps p.tables e below (s₁.setTop (entryFrame m #[(.ref r0)] 1)) t := by
    intro t kt
    refine pre3 _ ?_
    show Steps p.tables e below (T2.setTop (mkF m 20 #[rv r0] [(.ref r0)])) _
    refine st4 _ ?_
    show Steps p.tables e below (T4.setTop (mkF m 23 #[rv r0] [(.int (32 : Int32))])) _
    refine XS.sipush X4.here hx rfl (hb hby d6_23) ?_
    refine XS.icmpNo X4.here hx rfl (hb hby d6_26) rfl (tlt (by decide)).2.1 ?_
    refine XS.aloadN X4.here hx rfl (hb hby d6_29) rfl rfl ?_
    exact kt
  obtain ⟨cq6, q6, q6'⟩ := E_r0.cell
  obtain ⟨_, _, ⟨T6, L6, k6, n6⟩, -, X6, ⟨Lc6, hQ6, l6, y6, z6⟩, st6⟩ := X4.privateBack hx (y := (⟨"com/example/loopsmith/loopsmith/queue/Slots", "growFirstBlock", "()V"⟩ : MethodName)) hown (mvT hZ (hw _ (List.mem_of_getElem? (i := 46) rfl))) (mvT hZ (hw _ (List.mem_of_getElem? (i := 47) rfl))) (own_selp (y := (⟨"com/example/loopsmith/loopsmith/queue/Slots", "growFirstBlock", "()V"⟩ : MethodName)) (mvT hZ (hw _ (List.mem_of_getElem? (i := 1) rfl))) (Cond.privateMethod_at (mvP hZ (hw _ (List.mem_of_getElem? (i := 48) rfl)) (args := #[]))) (mvT hZ (hw _ (List.mem_of_getElem? (i := 47) rfl))) (by decide)) (Cond.privateMethod_at (mvP hZ (hw _ (List.mem_of_getElem? (i := 48) rfl)) (args := #[]))) (mvT hZ (hw _ (List.mem_of_getElem? (i := 49) rfl))) (by decide) (backOf (W := 0) (rm7c32 l Z a0 hw [] r0 mr I1 T1 F1 i2 t2 f2 kI kT kF ki kt kf h0 n0 (Nat.le_trans Z0 (Keep.refl h0 [r0, I1, T1, F1]).1) M_ ⟨Sit0, Sti0, Sfl0, ⟨_, Sbl0⟩, Sca0, SeI10, SeT10, SeF10, Sei20, Set20, Sef20, SvI10, SvT10, SvF10, Svi20, Svt20, Svf20, SoI10, SoT10, SoF10, Soi20⟩ E_r0 g_r0 g_I1 g_T1 g_F1 g_i2 g_t2 g_f2) hZ (hw _ (List.mem_of_getElem? (i := 49) rfl)) (hw _ (List.mem_of_getElem? (i := 2) rfl)) (by decide) (by decide)) (g := (mkF m 30 #[rv r0] [(.ref r0)])) rfl (by rw [hml]; rfl) (Steps.refl _) (a := r0) (by rw [e4]; exact q6) q6' (argsL := []) (rest := []) (lenOf pd6 rfl) rfl (by show 2 * 0 + _ ≤ _; exact Nat.le_of_eq rfl) (hb hby d6_30) (fun _ _ => ⟨rfl, e4, (by decide : 0 + 3 ≤ _), (by decide : 0 + 320 ≤ _)⟩)
  dsimp only [Pt.U, Pt.locs, Pt.cells, Pt.slots] at X6 l6 y6 z6 st6 hQ6
  subst l6 y6 z6
  obtain ⟨I1_6, T1_6, F1_6, i2_6, t2_6, f2_6, kI_6, kT_6, kF_6, ki_6, kt_6, kf_6, rfl, N6q, Kc6, hg6, Sl6⟩ := hQ6
  have N6 := Fr.app N0 N6q
  have K6 : Keep h0 T6.heap [r0, I1, T1, F1] := (Keep.refl h0 [r0, I1, T1, F1]).trans Kc6 (allS (Or.inl (List.mem_of_getElem? (i := 0) rfl)) (allS (Or.inl (List.mem_of_getElem? (i := 1) rfl)) (allS (Or.inl (List.mem_of_getElem? (i := 2) rfl)) (allS (Or.inl (List.mem_of_getElem? (i := 3) rfl)) all0))))
  obtain ⟨g_I1_6, g_T1_6, g_F1_6, g_i2_6, g_t2_6, g_f2_6⟩ := hg6
  obtain ⟨Sit6, Sti6, Sfl6, ⟨wb6, Sbl6⟩, Sca6, SeI16, SeT16, SeF16, Sei26, Set26, Sef26, SvI16, SvT16, SvF16, Svi26, Svt26, Svf26, SoI16, SoT16, SoF16, Soi26⟩ := id Sl6
  have pre7 : ∀ t, Steps p.tables e below (T6.setTop (mkF m 40 #[rv r0] [])) t → Steps p.tables e below (s₁.setTop (entryFrame m #[(.ref r0)] 1)) t := by
    intro t kt
    refine pre5 _ ?_
    show Steps p.tables e below (T4.setTop (mkF m 30 #[rv r0] [(.ref r0)])) _
    refine st6.trans ?_
    show Steps p.tables e below (T6.setTop (mkF m 33 #[rv r0] [])) _
    refine XS.goto X6.here hx rfl (pc0 := 33) (pc' := 40) rfl (hb hby d6_33) (by decide) (by decide) ?_
    exact kt
  obtain ⟨fs, hr, hrun, hended, hW, hsame⟩ := X6.leave (v := none) (fun _ => rfl)
  refine ⟨_, _, pre7 _ ?_, hrun, hended, _, _, rfl, ?_, ⟨_, rfl⟩, hW, hsame.mono (by decide) (by decide)⟩
  · show Steps p.tables e below (T6.setTop (mkF m 40 #[rv r0] [])) _
    exact X6.returnOut hx Bd.returns (hb hby d6_40) hr
  · show Q6c32 Z r0 mr I1 T1 F1 i2 t2 f2 kI kT kF ki kt kf h0 n0 _ T6.heap _
    exact ⟨I1_6, T1_6, F1_6, i2_6, t2_6, f2_6, kI_6, kT_6, kF_6, ki_6, kt_6, kf_6, rfl, N6, K6, ⟨g_I1_6, g_T1_6, g_F1_6, g_i2_6, g_t2_6, g_f2_6⟩, ⟨Sit6, Sti6, Sfl6, ⟨_, Sbl6⟩, Sca6, SeI16, SeT16, SeF16, Sei26, Set26, Sef26, SvI16, SvT16, SvF16, Svi26, Svt26, Svf26, SoI16, SoT16, SoF16, Soi26⟩⟩
theorem d4_0 : decode prog_42_method_5_code 0 = .ok (.aload_n 0, 1) := by decide +kernel
theorem d4_1 : decode prog_42_method_5_code 1 = .ok (.getfield 27, 3) := by decide +kernel
theorem d4_4 : decode prog_42_method_5_code 4 = .ok (.bipush 16, 2) := by decide +kernel
theorem d4_6 : decode prog_42_method_5_code 6 = .ok (.if_icmp .gt 4, 3) := by decide +kernel
theorem d4_9 : decode prog_42_method_5_code 9 = .ok (.return_, 1) := by decide +kernel
theorem ef_4c0 (m : MethodId) (x0 : Addr) : entryFrame m #[(.ref x0)] 1 = mkF m 0 #[.val (.ref x0)] [] := by first | (simp [entryFrame, mkF, argsToLocals, Value.category]; done) | rfl
def Q4c0 (Z : State) (r0 : Addr) (h0 : Heap) (n0 : Nat) (v : Option Value) (h : Heap) (L : List Loc) : Prop := v = none ∧ Fr n0 L ∧ h = h0
set_option maxRecDepth 65536 in
set_option maxHeartbeats 40000000 in
theorem rm4c0 (l : Launch) (Z : State) (a0 : Array Value) (hw : ∀ d ∈ tables_1, d.before a0 Z = true) (ws : List Jvm.Cond) (r0 : Addr) (h0 : Heap) (n0 : Nat) (Z0 : n0 ≤ h0.size) (F_capacity_r0 : Fld Z h0 r0 "com/example/loopsmith/loopsmith/queue/Slots" "capacity" "I" (.int (0 : Int32))) :
    MetFree l (⟨"com/example/loopsmith/loopsmith/queue/Slots", "letGo", "()V"⟩ : MethodName) (head1 (Jvm.Cond.code (⟨"com/example/loopsmith/loopsmith/queue/Slots", "letGo", "()V"⟩ : MethodName) prog_42_method_5_code 1 none :: ws) ({ frames := 0, cells := 0, slots := 0, locals := 0 } : Room)) (fun a U => a = #[(.ref r0)] ∧ Z.Warmed39 U.vm ∧ U.heap = h0) (fun _ _ _ _ _ => True) (fun _ U o U' => ∃ v L, o = .returned v ∧ Q4c0 Z r0 h0 n0 v U'.heap L ∧ FrameEnd U o U' L ({ frames := 0, cells := 0, slots := 0, locals := 0 } : Room).cells ({ frames := 0, cells := 0, slots := 0, locals := 0 } : Room).slots) := by
  refine MetFree.of_bodySF (plainFor_of_name pn4) hisR ?_
  intro p e s m args below meth c s₁ Bd hml0 hP hK
  obtain ⟨rfl, hZ, hh⟩ := hP
  have hx := Bd.exec
  have hby := Bd.bytes
  have hml : c.maxLocals = 1 := hml0
  have hown : s.vm.findClass "com/example/loopsmith/loopsmith/queue/Slots" = some m.cls := findClass_of_methodNamed Bd.named
  have hnm := (name_of_methodNamed Bd.named Bd.method).1
  have X0 : Stand p l e ({ frames := 0, cells := 0, slots := 0, locals := 0 } : Room) s m #[(.ref r0)] below meth c s₁ [] 0 0 := Stand.of_body Bd
  have e0 : s₁.heap = h0 := by rw [← hh, Bd.state]; rfl
  have N0 := Fr.nil n0
  have pre0 : ∀ t, Steps p.tables e below (s₁.setTop (mkF m 0 #[rv r0] [])) t → Steps p.tables e below (s₁.setTop (entryFrame m #[(.ref r0)] 1)) t := fun t k => castTop (ef_4c0 m r0) k
  have pre1 : ∀ t, Steps p.tables e below (s₁.setTop (mkF m 1 #[rv r0] [(.ref r0)])) t → Steps p.tables e below (s₁.setTop (entryFrame m #[(.ref r0)] 1)) t := by
    intro t kt
    refine pre0 _ ?_
    show Steps p.tables e below (s₁.setTop (mkF m 0 #[rv r0] [])) _
    refine XS.aloadN X0.here hx rfl (hb hby d4_0) rfl rfl ?_
    exact kt
  obtain ⟨T2, X2, e2, st2⟩ := getF X0 hx hZ hown (host := "") (Or.inl (hw _ (List.mem_of_getElem? (i := 33) rfl))) Via.refl e0 F_capacity_r0 (g := (mkF m 1 #[rv r0] [(.ref r0)])) rfl rfl (hb hby d4_1)
  have pre3 : ∀ t, Steps p.tables e below (T2.setTop (mkF m 9 #[rv r0] [])) t → Steps p.tables e below (s₁.setTop (entryFrame m #[(.ref r0)] 1)) t := by
    intro t kt
    refine pre1 _ ?_
    show Steps p.tables e below (s₁.setTop (mkF m 1 #[rv r0] [(.ref r0)])) _
    refine st2 _ ?_
    show Steps p.tables e below (T2.setTop (mkF m 4 #[rv r0] [(.int (0 : Int32))])) _
    refine XS.bipush X2.here hx rfl (hb hby d4_4) ?_
    refine XS.icmpNo X2.here hx rfl (hb hby d4_6) rfl (flt (by decide)).2.2.1 ?_
    exact kt
  obtain ⟨fs, hr, hrun, hended, hW, hsame⟩ := X2.leave (v := none) (fun _ => rfl)
  refine ⟨_, _, pre3 _ ?_, hrun, hended, _, _, rfl, ?_, ⟨_, rfl⟩, hW, hsame.mono (by decide) (by decide)⟩
  · show Steps p.tables e below (T2.setTop (mkF m 9 #[rv r0] [])) _
    exact X2.returnOut hx Bd.returns (hb hby d4_9) hr
  · show Q4c0 Z r0 h0 n0 _ T2.heap _
    rw [e2]
    exact ⟨rfl, N0, rfl⟩

theorem ef_4c16 (m : MethodId) (x0 : Addr) : entryFrame m #[(.ref x0)] 1 = mkF m 0 #[.val (.ref x0)] [] := by first | (simp [entryFrame, mkF, argsToLocals, Value.category]; done) | rfl
def Q4c16 (Z : State) (r0 : Addr) (h0 : Heap) (n0 : Nat) (v : Option Value) (h : Heap) (L : List Loc) : Prop := v = none ∧ Fr n0 L ∧ h = h0
set_option maxRecDepth 65536 in
set_option maxHeartbeats 40000000 in
theorem rm4c16 (l : Launch) (Z : State) (a0 : Array Value) (hw : ∀ d ∈ tables_1, d.before a0 Z = true) (ws : List Jvm.Cond) (r0 : Addr) (h0 : Heap) (n0 : Nat) (Z0 : n0 ≤ h0.size) (F_capacity_r0 : Fld Z h0 r0 "com/example/loopsmith/loopsmith/queue/Slots" "capacity" "I" (.int (16 : Int32))) :
    MetFree l (⟨"com/example/loopsmith/loopsmith/queue/Slots", "letGo", "()V"⟩ : MethodName) (head1 (Jvm.Cond.code (⟨"com/example/loopsmith/loopsmith/queue/Slots", "letGo", "()V"⟩ : MethodName) prog_42_method_5_code 1 none :: ws) ({ frames := 0, cells := 0, slots := 0, locals := 0 } : Room)) (fun a U => a = #[(.ref r0)] ∧ Z.Warmed39 U.vm ∧ U.heap = h0) (fun _ _ _ _ _ => True) (fun _ U o U' => ∃ v L, o = .returned v ∧ Q4c16 Z r0 h0 n0 v U'.heap L ∧ FrameEnd U o U' L ({ frames := 0, cells := 0, slots := 0, locals := 0 } : Room).cells ({ frames := 0, cells := 0, slots := 0, locals := 0 } : Room).slots) := by
  refine MetFree.of_bodySF (plainFor_of_name pn4) hisR ?_
  intro p e s m args below meth c s₁ Bd hml0 hP hK
  obtain ⟨rfl, hZ, hh⟩ := hP
  have hx := Bd.exec
  have hby := Bd.bytes
  have hml : c.maxLocals = 1 := hml0
  have hown : s.vm.findClass "com/example/loopsmith/loopsmith/queue/Slots" = some m.cls := findClass_of_methodNamed Bd.named
  have hnm := (name_of_methodNamed Bd.named Bd.method).1
  have X0 : Stand p l e ({ frames := 0, cells := 0, slots := 0, locals := 0 } : Room) s m #[(.ref r0)] below meth c s₁ [] 0 0 := Stand.of_body Bd
  have e0 : s₁.heap = h0 := by rw [← hh, Bd.state]; rfl
  have N0 := Fr.nil n0
  have pre0 : ∀ t, Steps p.tables e below (s₁.setTop (mkF m 0 #[rv r0] [])) t → Steps p.tables e below (s₁.setTop (entryFrame m #[(.ref r0)] 1)) t := fun t k => castTop (ef_4c16 m r0) k
  have pre1 : ∀ t, Steps p.tables e below (s₁.setTop (mkF m 1 #[rv r0] [(.ref r0)])) t → Steps p.tables e below (s₁.setTop (entryFrame m #[(.ref r0)] 1)) t := by
    intro t kt
    refine pre0 _ ?_
    show Steps p.tables e below (s₁.setTop (mkF m 0 #[rv r0] [])) _
    refine XS.aloadN X0.here hx rfl (hb hby d4_0) rfl rfl ?_
    exact kt
  obtain ⟨T2, X2, e2, st2⟩ := getF X0 hx hZ hown (host := "") (Or.inl (hw _ (List.mem_of_getElem? (i := 33) rfl))) Via.refl e0 F_capacity_r0 (g := (mkF m 1 #[rv r0] [(.ref r0)])) rfl rfl (hb hby d4_1)
  have pre3 : ∀ t, Steps p.tables e below (T2.setTop (mkF m 9 #[rv r0] [])) t → Steps p.tables e below (s₁.setTop (entryFrame m #[(.ref r0)] 1)) t := by
    intro t kt
    refine pre1 _ ?_
    show Steps p.tables e below (s₁.setTop (mkF m 1 #[rv r0] [(.ref r0)])) _
    refine st2 _ ?_
    show Steps p.tables e below (T2.setTop (mkF m 4 #[rv r0] [(.int (16 : Int32))])) _
    refine XS.bipush X2.here hx rfl (hb hby d4_4) ?_
    refine XS.icmpNo X2.here hx rfl (hb hby d4_6) rfl (flt (by decide)).2.2.1 ?_
    exact kt
  obtain ⟨fs, hr, hrun, hended, hW, hsame⟩ := X2.leave (v := none) (fun _ => rfl)
  refine ⟨_, _, pre3 _ ?_, hrun, hended, _, _, rfl, ?_, ⟨_, rfl⟩, hW, hsame.mono (by decide) (by decide)⟩
  · show Steps p.tables e below (T2.setTop (mkF m 9 #[rv r0] [])) _
    exact X2.returnOut hx Bd.returns (hb hby d4_9) hr
  · show Q4c16 Z r0 h0 n0 _ T2.heap _
    rw [e2]
    exact ⟨rfl, N0, rfl⟩
theorem d4_10 : decode prog_42_method_5_code 10 = .ok (.aload_n 0, 1) := by decide +kernel
theorem d4_11 : decode prog_42_method_5_code 11 = .ok (.iconst 0, 1) := by decide +kernel
theorem d4_12 : decode prog_42_method_5_code 12 = .ok (.anewarray 9, 3) := by decide +kernel
theorem d4_15 : decode prog_42_method_5_code 15 = .ok (.putfield 11, 3) := by decide +kernel
theorem d4_18 : decode prog_42_method_5_code 18 = .ok (.aload_n 0, 1) := by decide +kernel
theorem d4_19 : decode prog_42_method_5_code 19 = .ok (.iconst 0, 1) := by decide +kernel
theorem d4_20 : decode prog_42_method_5_code 20 = .ok (.anewarray 15, 3) := by decide +kernel
theorem d4_23 : decode prog_42_method_5_code 23 = .ok (.putfield 17, 3) := by decide +kernel
theorem d4_26 : decode prog_42_method_5_code 26 = .ok (.aload_n 0, 1) := by decide +kernel
theorem d4_27 : decode prog_42_method_5_code 27 = .ok (.iconst 0, 1) := by decide +kernel
theorem d4_28 : decode prog_42_method_5_code 28 = .ok (.anewarray 21, 3) := by decide +kernel
theorem d4_31 : decode prog_42_method_5_code 31 = .ok (.putfield 23, 3) := by decide +kernel
theorem d4_34 : decode prog_42_method_5_code 34 = .ok (.aload_n 0, 1) := by decide +kernel
theorem d4_35 : decode prog_42_method_5_code 35 = .ok (.iconst 0, 1) := by decide +kernel
theorem d4_36 : decode prog_42_method_5_code 36 = .ok (.putfield 45, 3) := by decide +kernel
theorem d4_39 : decode prog_42_method_5_code 39 = .ok (.aload_n 0, 1) := by decide +kernel
theorem d4_40 : decode prog_42_method_5_code 40 = .ok (.iconst 0, 1) := by decide +kernel
theorem d4_41 : decode prog_42_method_5_code 41 = .ok (.putfield 27, 3) := by decide +kernel
theorem d4_44 : decode prog_42_method_5_code 44 = .ok (.return_, 1) := by decide +kernel
theorem ef_4c32 (m : MethodId) (x0 : Addr) : entryFrame m #[(.ref x0)] 1 = mkF m 0 #[.val (.ref x0)] [] := by first | (simp [entryFrame, mkF, argsToLocals, Value.category]; done) | rfl
def Q4c32 (Z : State) (r0 : Addr) (i0 : Addr) (t0 : Addr) (f0 : Addr) (w0 : Int32) (h0 : Heap) (n0 : Nat) (v : Option Value) (h : Heap) (L : List Loc) : Prop := v = none ∧ Fr n0 L ∧ Keep h0 h [r0] ∧ (∃ i t f : Addr, Fld Z h r0 "com/example/loopsmith/loopsmith/queue/Slots" "items" "[[Ljava/lang/Object;" (.ref i) ∧ Fld Z h r0 "com/example/loopsmith/loopsmith/queue/Slots" "times" "[[J" (.ref t) ∧ Fld Z h r0 "com/example/loopsmith/loopsmith/queue/Slots" "flags" "[[B" (.ref f)) ∧ (∃ w, Fld Z h r0 "com/example/loopsmith/loopsmith/queue/Slots" "blocks" "I" (.int w)) ∧ Fld Z h r0 "com/example/loopsmith/loopsmith/queue/Slots" "capacity" "I" (.int (0 : Int32))
set_option maxRecDepth 65536 in
set_option maxHeartbeats 40000000 in
theorem rm4c32 (l : Launch) (Z : State) (a0 : Array Value) (hw : ∀ d ∈ tables_1, d.before a0 Z = true) (ws : List Jvm.Cond) (r0 : Addr) (i0 : Addr) (t0 : Addr) (f0 : Addr) (w0 : Int32) (h0 : Heap) (n0 : Nat) (Z0 : n0 ≤ h0.size) (F_items_r0 : Fld Z h0 r0 "com/example/loopsmith/loopsmith/queue/Slots" "items" "[[Ljava/lang/Object;" (.ref i0)) (F_times_r0 : Fld Z h0 r0 "com/example/loopsmith/loopsmith/queue/Slots" "times" "[[J" (.ref t0)) (F_flags_r0 : Fld Z h0 r0 "com/example/loopsmith/loopsmith/queue/Slots" "flags" "[[B" (.ref f0)) (F_blocks_r0 : Fld Z h0 r0 "com/example/loopsmith/loopsmith/queue/Slots" "blocks" "I" (.int w0)) (F_capacity_r0 : Fld Z h0 r0 "com/example/loopsmith/loopsmith/queue/Slots" "capacity" "I" (.int (32 : Int32))) (E_r0 : Exa Z h0 r0 "com/example/loopsmith/loopsmith/queue/Slots") (g_r0 : n0 ≤ r0) :
    MetFree l (⟨"com/example/loopsmith/loopsmith/queue/Slots", "letGo", "()V"⟩ : MethodName) (head1 (Jvm.Cond.code (⟨"com/example/loopsmith/loopsmith/queue/Slots", "letGo", "()V"⟩ : MethodName) prog_42_method_5_code 1 none :: ws) ({ frames := 0, cells := 3, slots := 0, locals := 0 } : Room)) (fun a U => a = #[(.ref r0)] ∧ Z.Warmed39 U.vm ∧ U.heap = h0) (fun _ _ _ _ _ => True) (fun _ U o U' => ∃ v L, o = .returned v ∧ Q4c32 Z r0 i0 t0 f0 w0 h0 n0 v U'.heap L ∧ FrameEnd U o U' L ({ frames := 0, cells := 3, slots := 0, locals := 0 } : Room).cells ({ frames := 0, cells := 3, slots := 0, locals := 0 } : Room).slots) := by
  refine MetFree.of_bodySF (plainFor_of_name pn4) hisR ?_
  intro p e s m args below meth c s₁ Bd hml0 hP hK
  obtain ⟨rfl, hZ, hh⟩ := hP
  have hx := Bd.exec
  have hby := Bd.bytes
  have hml : c.maxLocals = 1 := hml0
  have hown : s.vm.findClass "com/example/loopsmith/loopsmith/queue/Slots" = some m.cls := findClass_of_methodNamed Bd.named
  have hnm := (name_of_methodNamed Bd.named Bd.method).1
  have X0 : Stand p l e ({ frames := 0, cells := 3, slots := 0, locals := 0 } : Room) s m #[(.ref r0)] below meth c s₁ [] 0 0 := Stand.of_body Bd
  have e0 : s₁.heap = h0 := by rw [← hh, Bd.state]; rfl
  have N0 := Fr.nil n0
  have pre0 : ∀ t, Steps p.tables e below (s₁.setTop (mkF m 0 #[rv r0] [])) t → Steps p.tables e below (s₁.setTop (entryFrame m #[(.ref r0)] 1)) t := fun t k => castTop (ef_4c32 m r0) k
  have pre1 : ∀ t, Steps p.tables e below (s₁.setTop (mkF m 1 #[rv r0] [(.ref r0)])) t → Steps p.tables e below (s₁.setTop (entryFrame m #[(.ref r0)] 1)) t := by
    intro t kt
    refine pre0 _ ?_
    show Steps p.tables e below (s₁.setTop (mkF m 0 #[rv r0] [])) _
    refine XS.aloadN X0.here hx rfl (hb hby d4_0) rfl rfl ?_
    exact kt
  obtain ⟨T2, X2, e2, st2⟩ := getF X0 hx hZ hown (host := "") (Or.inl (hw _ (List.mem_of_getElem? (i := 33) rfl))) Via.refl e0 F_capacity_r0 (g := (mkF m 1 #[rv r0] [(.ref r0)])) rfl rfl (hb hby d4_1)
  have pre3 : ∀ t, Steps p.tables e below (T2.setTop (mkF m 12 #[rv r0] [(.int (0 : Int32)), (.ref r0)])) t → Steps p.tables e below (s₁.setTop (entryFrame m #[(.ref r0)] 1)) t := by
    intro t kt
    refine pre1 _ ?_
    show Steps p.tables e below (s₁.setTop (mkF m 1 #[rv r0] [(.ref r0)])) _
    refine st2 _ ?_
    show Steps p.tables e below (T2.setTop (mkF m 4 #[rv r0] [(.int (32 : Int32))])) _
    refine XS.bipush X2.here hx rfl (hb hby d4_4) ?_
    refine XS.icmpYes X2.here hx rfl (pc0 := 6) (pc' := 10) rfl (hb hby d4_6) rfl (tlt (by decide)).2.2.1 (by decide) (by decide) ?_
    refine XS.aloadN X2.here hx rfl (hb hby d4_10) rfl rfl ?_
    refine XS.iconst X2.here hx rfl (hb hby d4_11) ?_
    exact kt
  obtain ⟨T4, h4, k4, X4, e4, E4, A4, Ex4, O4, st4⟩ := newRA X2 hx hZ hown (ty := (.object "java/lang/Object")) rfl (hw _ (List.mem_of_getElem? (i := 9) rfl)) (hw _ (List.mem_of_getElem? (i := 10) rfl)) e2 (g := (mkF m 12 #[rv r0] [(.int (0 : Int32)), (.ref r0)])) rfl (hb hby d4_12) rfl (by decide) (cap := 0) (by decide) (by decide) (by decide) (by decide) (ad := "[[Ljava/lang/Object;") rfl
  obtain ⟨b4, g4⟩ : ∃ z, z = h0.size := ⟨_, rfl⟩
  rw [← g4] at A4 Ex4 st4
  have g_b4 : n0 ≤ b4 := Nat.le_trans (Nat.le_trans Z0 (Keep.refl h0 [r0]).1) (Nat.le_of_eq g4.symm)
  have sz_b4 : h0.size ≤ b4 := Nat.le_trans (Keep.refl h0 [r0]).1 (Nat.le_of_eq g4.symm)
  have V_b4 : Arv Z h4 b4 k4 (.array (.object "java/lang/Object")) (0 : Int32) [] .null := (Arv.new A4 (by decide))
  have K4 : Keep h0 h4 [r0] := (Keep.refl h0 [r0]).ext E4
  have pre5 : ∀ t, Steps p.tables e below (T4.setTop (mkF m 15 #[rv r0] [(.ref b4), (.ref r0)])) t → Steps p.tables e below (s₁.setTop (entryFrame m #[(.ref r0)] 1)) t := by
    intro t kt
    refine pre3 _ ?_
    show Steps p.tables e below (T2.setTop (mkF m 12 #[rv r0] [(.int (0 : Int32)), (.ref r0)])) _
    refine st4 _ ?_
    exact kt
  obtain ⟨T6, h6, X6, e6, W6, st6⟩ := putF X4 hx hZ hown (host := "") (Or.inl (hw _ (List.mem_of_getElem? (i := 11) rfl))) Via.refl e4 (F_items_r0.ext E4) (E_r0.ext E4) (Or.inl (hw _ (List.mem_of_getElem? (i := 12) rfl))) (hw _ (List.mem_of_getElem? (i := 1) rfl)) (ty := (.array (.array (.object "java/lang/Object")))) (by decide) rfl rfl (g := (mkF m 15 #[rv r0] [(.ref b4), (.ref r0)])) rfl rfl (hb hby d4_15)
  have Fw6 : Fld Z h6 r0 "com/example/loopsmith/loopsmith/queue/Slots" "items" "[[Ljava/lang/Object;" (.ref b4) := (F_items_r0.ext E4).same W6
  have K6 : Keep h0 h6 [r0] := K4.wr W6 (Or.inl (List.mem_of_getElem? (i := 0) rfl))
  have N6 := Fr.snoc X6 N0 g_r0
  have pre7 : ∀ t, Steps p.tables e below (T6.setTop (mkF m 20 #[rv r0] [(.int (0 : Int32)), (.ref r0)])) t → Steps p.tables e below (s₁.setTop (entryFrame m #[(.ref r0)] 1)) t := by
    intro t kt
    refine pre5 _ ?_
    show Steps p.tables e below (T4.setTop (mkF m 15 #[rv r0] [(.ref b4), (.ref r0)])) _
    refine st6 _ ?_
    show Steps p.tables e below (T6.setTop (mkF m 18 #[rv r0] [])) _
    refine XS.aloadN X6.here hx rfl (hb hby d4_18) rfl rfl ?_
    refine XS.iconst X6.here hx rfl (hb hby d4_19) ?_
    exact kt
  obtain ⟨T8, h8, k8, X8, e8, E8, A8, Ex8, O8, st8⟩ := newRA X6 hx hZ hown (ty := .long) rfl (hw _ (List.mem_of_getElem? (i := 13) rfl)) (hw _ (List.mem_of_getElem? (i := 14) rfl)) e6 (g := (mkF m 20 #[rv r0] [(.int (0 : Int32)), (.ref r0)])) rfl (hb hby d4_20) rfl (by decide) (cap := 0) (by decide) (by decide) (by decide) (by decide) (ad := "[[J") rfl
  obtain ⟨b8, g8⟩ : ∃ z, z = h6.size := ⟨_, rfl⟩
  rw [← g8] at A8 Ex8 st8
  have g_b8 : n0 ≤ b8 := Nat.le_trans (Nat.le_trans Z0 K6.1) (Nat.le_of_eq g8.symm)
  have sz_b8 : h0.size ≤ b8 := Nat.le_trans K6.1 (Nat.le_of_eq g8.symm)
  have V_b8 : Arv Z h8 b8 k8 (.array .long) (0 : Int32) [] .null := (Arv.new A8 (by decide))
  have K8 : Keep h0 h8 [r0] := K6.ext E8
  have pre9 : ∀ t, Steps p.tables e below (T8.setTop (mkF m 23 #[rv r0] [(.ref b8), (.ref r0)])) t → Steps p.tables e below (s₁.setTop (entryFrame m #[(.ref r0)] 1)) t := by
    intro t kt
    refine pre7 _ ?_
    show Steps p.tables e below (T6.setTop (mkF m 20 #[rv r0] [(.int (0 : Int32)), (.ref r0)])) _
    refine st8 _ ?_
    exact kt
  obtain ⟨T10, h10, X10, e10, W10, st10⟩ := putF X8 hx hZ hown (host := "") (Or.inl (hw _ (List.mem_of_getElem? (i := 15) rfl))) Via.refl e8 (((F_times_r0.ext E4).other W6 (Or.inr (slot_ne (Or.inl (hw _ (List.mem_of_getElem? (i := 16) rfl))) (Or.inl (hw _ (List.mem_of_getElem? (i := 12) rfl))) (by decide) (t := (.array (.array .long))) (t' := (.array (.array (.object "java/lang/Object")))) (by decide) (by decide)))).ext E8) (((E_r0.ext E4).wr W6).ext E8) (Or.inl (hw _ (List.mem_of_getElem? (i := 16) rfl))) (hw _ (List.mem_of_getElem? (i := 1) rfl)) (ty := (.array (.array .long))) (by decide) rfl rfl (g := (mkF m 23 #[rv r0] [(.ref b8), (.ref r0)])) rfl rfl (hb hby d4_23)
  have Fw10 : Fld Z h10 r0 "com/example/loopsmith/loopsmith/queue/Slots" "times" "[[J" (.ref b8) := (((F_times_r0.ext E4).other W6 (Or.inr (slot_ne (Or.inl (hw _ (List.mem_of_getElem? (i := 16) rfl))) (Or.inl (hw _ (List.mem_of_getElem? (i := 12) rfl))) (by decide) (t := (.array (.array .long))) (t' := (.array (.array (.object "java/lang/Object")))) (by decide) (by decide)))).ext E8).same W10
  have K10 : Keep h0 h10 [r0] := K8.wr W10 (Or.inl (List.mem_of_getElem? (i := 0) rfl))
  have N10 := Fr.snoc X10 N6 g_r0
  have pre11 : ∀ t, Steps p.tables e below (T10.setTop (mkF m 28 #[rv r0] [(.int (0 : Int32)), (.ref r0)])) t → Steps p.tables e below (s₁.setTop (entryFrame m #[(.ref r0)] 1)) t := by
    intro t kt
    refine pre9 _ ?_
    show Steps p.tables e below (T8.setTop (mkF m 23 #[rv r0] [(.ref b8), (.ref r0)])) _
    refine st10 _ ?_
    show Steps p.tables e below (T10.setTop (mkF m 26 #[rv r0] [])) _
    refine XS.aloadN X10.here hx rfl (hb hby d4_26) rfl rfl ?_
    refine XS.iconst X10.here hx rfl (hb hby d4_27) ?_
    exact kt
  obtain ⟨T12, h12, k12, X12, e12, E12, A12, Ex12, O12, st12⟩ := newRA X10 hx hZ hown (ty := .byte) rfl (hw _ (List.mem_of_getElem? (i := 17) rfl)) (hw _ (List.mem_of_getElem? (i := 18) rfl)) e10 (g := (mkF m 28 #[rv r0] [(.int (0 : Int32)), (.ref r0)])) rfl (hb hby d4_28) rfl (by decide) (cap := 0) (by decide) (by decide) (by decide) (by decide) (ad := "[[B") rfl
  obtain ⟨b12, g12⟩ : ∃ z, z = h10.size := ⟨_, rfl⟩
  rw [← g12] at A12 Ex12 st12
  have g_b12 : n0 ≤ b12 := Nat.le_trans (Nat.le_trans Z0 K10.1) (Nat.le_of_eq g12.symm)
  have sz_b12 : h0.size ≤ b12 := Nat.le_trans K10.1 (Nat.le_of_eq g12.symm)
  have V_b12 : Arv Z h12 b12 k12 (.array .byte) (0 : Int32) [] .null := (Arv.new A12 (by decide))
  have K12 : Keep h0 h12 [r0] := K10.ext E12
  have pre13 : ∀ t, Steps p.tables e below (T12.setTop (mkF m 31 #[rv r0] [(.ref b12), (.ref r0)])) t → Steps p.tables e below (s₁.setTop (entryFrame m #[(.ref r0)] 1)) t := by
    intro t kt
    refine pre11 _ ?_
    show Steps p.tables e below (T10.setTop (mkF m 28 #[rv r0] [(.int (0 : Int32)), (.ref r0)])) _
    refine st12 _ ?_
    exact kt
  obtain ⟨T14, h14, X14, e14, W14, st14⟩ := putF X12 hx hZ hown (host := "") (Or.inl (hw _ (List.mem_of_getElem? (i := 19) rfl))) Via.refl e12 (((((F_flags_r0.ext E4).other W6 (Or.inr (slot_ne (Or.inl (hw _ (List.mem_of_getElem? (i := 20) rfl))) (Or.inl (hw _ (List.mem_of_getElem? (i := 12) rfl))) (by decide) (t := (.array (.array .byte))) (t' := (.array (.array (.object "java/lang/Object")))) (by decide) (by decide)))).ext E8).other W10 (Or.inr (slot_ne (Or.inl (hw _ (List.mem_of_getElem? (i := 20) rfl))) (Or.inl (hw _ (List.mem_of_getElem? (i := 16) rfl))) (by decide) (t := (.array (.array .byte))) (t' := (.array (.array .long))) (by decide) (by decide)))).ext E12) (((((E_r0.ext E4).wr W6).ext E8).wr W10).ext E12) (Or.inl (hw _ (List.mem_of_getElem? (i := 20) rfl))) (hw _ (List.mem_of_getElem? (i := 1) rfl)) (ty := (.array (.array .byte))) (by decide) rfl rfl (g := (mkF m 31 #[rv r0] [(.ref b12), (.ref r0)])) rfl rfl (hb hby d4_31)
  have Fw14 : Fld Z h14 r0 "com/example/loopsmith/loopsmith/queue/Slots" "flags" "[[B" (.ref b12) := (((((F_flags_r0.ext E4).other W6 (Or.inr (slot_ne (Or.inl (hw _ (List.mem_of_getElem? (i := 20) rfl))) (Or.inl (hw _ (List.mem_of_getElem? (i := 12) rfl))) (by decide) (t := (.array (.array .byte))) (t' := (.array (.array (.object "java/lang/Object")))) (by decide) (by decide)))).ext E8).other W10 (Or.inr (slot_ne (Or.inl (hw _ (List.mem_of_getElem? (i := 20) rfl))) (Or.inl (hw _ (List.mem_of_getElem? (i := 16) rfl))) (by decide) (t := (.array (.array .byte))) (t' := (.array (.array .long))) (by decide) (by decide)))).ext E12).same W14
  have K14 : Keep h0 h14 [r0] := K12.wr W14 (Or.inl (List.mem_of_getElem? (i := 0) rfl))
  have N14 := Fr.snoc X14 N10 g_r0
  have pre15 : ∀ t, Steps p.tables e below (T14.setTop (mkF m 36 #[rv r0] [(.int (0 : Int32)), (.ref r0)])) t → Steps p.tables e below (s₁.setTop (entryFrame m #[(.ref r0)] 1)) t := by
    intro t kt
    refine pre13 _ ?_
    show Steps p.tables e below (T12.setTop (mkF m 31 #[rv r0] [(.ref b12), (.ref r0)])) _
    refine st14 _ ?_
    show Steps p.tables e below (T14.setTop (mkF m 34 #[rv r0] [])) _
    refine XS.aloadN X14.here hx rfl (hb hby d4_34) rfl rfl ?_
    refine XS.iconst X14.here hx rfl (hb hby d4_35) ?_
    exact kt
  obtain ⟨T16, h16, X16, e16, W16, st16⟩ := putF X14 hx hZ hown (host := "") (Or.inl (hw _ (List.mem_of_getElem? (i := 62) rfl))) Via.refl e14 ((((((F_blocks_r0.ext E4).other W6 (Or.inr (slot_ne (Or.inl (hw _ (List.mem_of_getElem? (i := 63) rfl))) (Or.inl (hw _ (List.mem_of_getElem? (i := 12) rfl))) (by decide) (t := .int) (t' := (.array (.array (.object "java/lang/Object")))) (by decide) (by decide)))).ext E8).other W10 (Or.inr (slot_ne (Or.inl (hw _ (List.mem_of_getElem? (i := 63) rfl))) (Or.inl (hw _ (List.mem_of_getElem? (i := 16) rfl))) (by decide) (t := .int) (t' := (.array (.array .long))) (by decide) (by decide)))).ext E12).other W14 (Or.inr (slot_ne (Or.inl (hw _ (List.mem_of_getElem? (i := 63) rfl))) (Or.inl (hw _ (List.mem_of_getElem? (i := 20) rfl))) (by decide) (t := .int) (t' := (.array (.array .byte))) (by decide) (by decide)))) ((((((E_r0.ext E4).wr W6).ext E8).wr W10).ext E12).wr W14) (Or.inl (hw _ (List.mem_of_getElem? (i := 63) rfl))) (hw _ (List.mem_of_getElem? (i := 1) rfl)) (ty := .int) (by decide) rfl rfl (g := (mkF m 36 #[rv r0] [(.int (0 : Int32)), (.ref r0)])) rfl rfl (hb hby d4_36)
  have Fw16 : Fld Z h16 r0 "com/example/loopsmith/loopsmith/queue/Slots" "blocks" "I" (.int (0 : Int32)) := ((((((F_blocks_r0.ext E4).other W6 (Or.inr (slot_ne (Or.inl (hw _ (List.mem_of_getElem? (i := 63) rfl))) (Or.inl (hw _ (List.mem_of_getElem? (i := 12) rfl))) (by decide) (t := .int) (t' := (.array (.array (.object "java/lang/Object")))) (by decide) (by decide)))).ext E8).other W10 (Or.inr (slot_ne (Or.inl (hw _ (List.mem_of_getElem? (i := 63) rfl))) (Or.inl (hw _ (List.mem_of_getElem? (i := 16) rfl))) (by decide) (t := .int) (t' := (.array (.array .long))) (by decide) (by decide)))).ext E12).other W14 (Or.inr (slot_ne (Or.inl (hw _ (List.mem_of_getElem? (i := 63) rfl))) (Or.inl (hw _ (List.mem_of_getElem? (i := 20) rfl))) (by decide) (t := .int) (t' := (.array (.array .byte))) (by decide) (by decide)))).same W16
  have K16 : Keep h0 h16 [r0] := K14.wr W16 (Or.inl (List.mem_of_getElem? (i := 0) rfl))
  have N16 := Fr.snoc X16 N14 g_r0
  have pre17 : ∀ t, Steps p.tables e below (T16.setTop (mkF m 41 #[rv r0] [(.int (0 : Int32)), (.ref r0)])) t → Steps p.tables e below (s₁.setTop (entryFrame m #[(.ref r0)] 1)) t := by
    intro t kt
    refine pre15 _ ?_
    show Steps p.tables e below (T14.setTop (mkF m 36 #[rv r0] [(.int (0 : Int32)), (.ref r0)])) _
    refine st16 _ ?_
    show Steps p.tables e below (T16.setTop (mkF m 39 #[rv r0] [])) _
    refine XS.aloadN X16.here hx rfl (hb hby d4_39) rfl rfl ?_
    refine XS.iconst X16.here hx rfl (hb hby d4_40) ?_
    exact kt
  obtain ⟨T18, h18, X18, e18, W18, st18⟩ := putF X16 hx hZ hown (host := "") (Or.inl (hw _ (List.mem_of_getElem? (i := 33) rfl))) Via.refl e16 (((((((F_capacity_r0.ext E4).other W6 (Or.inr (slot_ne (Or.inl (hw _ (List.mem_of_getElem? (i := 34) rfl))) (Or.inl (hw _ (List.mem_of_getElem? (i := 12) rfl))) (by decide) (t := .int) (t' := (.array (.array (.object "java/lang/Object")))) (by decide) (by decide)))).ext E8).other W10 (Or.inr (slot_ne (Or.inl (hw _ (List.mem_of_getElem? (i := 34) rfl))) (Or.inl (hw _ (List.mem_of_getElem? (i := 16) rfl))) (by decide) (t := .int) (t' := (.array (.array .long))) (by decide) (by decide)))).ext E12).other W14 (Or.inr (slot_ne (Or.inl (hw _ (List.mem_of_getElem? (i := 34) rfl))) (Or.inl (hw _ (List.mem_of_getElem? (i := 20) rfl))) (by decide) (t := .int) (t' := (.array (.array .byte))) (by decide) (by decide)))).other W16 (Or.inr (slot_ne (Or.inl (hw _ (List.mem_of_getElem? (i := 34) rfl))) (Or.inl (hw _ (List.mem_of_getElem? (i := 63) rfl))) (by decide) (t := .int) (t' := .int) (by decide) (by decide)))) (((((((E_r0.ext E4).wr W6).ext E8).wr W10).ext E12).wr W14).wr W16) (Or.inl (hw _ (List.mem_of_getElem? (i := 34) rfl))) (hw _ (List.mem_of_getElem? (i := 1) rfl)) (ty := .int) (by decide) rfl rfl (g := (mkF m 41 #[rv r0] [(.int (0 : Int32)), (.ref r0)])) rfl rfl (hb hby d4_41)
  have Fw18 : Fld Z h18 r0 "com/example/loopsmith/loopsmith/queue/Slots" "capacity" "I" (.int (0 : Int32)) := (((((((F_capacity_r0.ext E4).other W6 (Or.inr (slot_ne (Or.inl (hw _ (List.mem_of_getElem? (i := 34) rfl))) (Or.inl (hw _ (List.mem_of_getElem? (i := 12) rfl))) (by decide) (t := .int) (t' := (.array (.array (.object "java/lang/Object")))) (by decide) (by decide)))).ext E8).other W10 (Or.inr (slot_ne (Or.inl (hw _ (List.mem_of_getElem? (i := 34) rfl))) (Or.inl (hw _ (List.mem_of_getElem? (i := 16) rfl))) (by decide) (t := .int) (t' := (.array (.array .long))) (by decide) (by decide)))).ext E12).other W14 (Or.inr (slot_ne (Or.inl (hw _ (List.mem_of_getElem? (i := 34) rfl))) (Or.inl (hw _ (List.mem_of_getElem? (i := 20) rfl))) (by decide) (t := .int) (t' := (.array (.array .byte))) (by decide) (by decide)))).other W16 (Or.inr (slot_ne (Or.inl (hw _ (List.mem_of_getElem? (i := 34) rfl))) (Or.inl (hw _ (List.mem_of_getElem? (i := 63) rfl))) (by decide) (t := .int) (t' := .int) (by decide) (by decide)))).same W18
  have K18 : Keep h0 h18 [r0] := K16.wr W18 (Or.inl (List.mem_of_getElem? (i := 0) rfl))
  have N18 := Fr.snoc X18 N16 g_r0
  have pre19 : ∀ t, Steps p.tables e below (T18.setTop (mkF m 44 #[rv r0] [])) t → Steps p.tables e below (s₁.setTop (entryFrame m #[(.ref r0)] 1)) t := by
    intro t kt
    refine pre17 _ ?_
    show Steps p.tables e below (T16.setTop (mkF m 41 #[rv r0] [(.int (0 : Int32)), (.ref r0)])) _
    refine st18 _ ?_
    exact kt
  obtain ⟨fs, hr, hrun, hended, hW, hsame⟩ := X18.leave (v := none) (fun _ => rfl)
  refine ⟨_, _, pre19 _ ?_, hrun, hended, _, _, rfl, ?_, ⟨_, rfl⟩, hW, hsame.mono (by decide) (by decide)⟩
  · show Steps p.tables e below (T18.setTop (mkF m 44 #[rv r0] [])) _
    exact X18.returnOut hx Bd.returns (hb hby d4_44) hr
  · show Q4c32 Z r0 i0 t0 f0 w0 h0 n0 _ T18.heap _
    rw [e18]
    exact ⟨rfl, N18, K18, ⟨_, _, _, ((((((Fw6.ext E8).other W10 (Or.inr (slot_ne (Or.inl (hw _ (List.mem_of_getElem? (i := 12) rfl))) (Or.inl (hw _ (List.mem_of_getElem? (i := 16) rfl))) (by decide) (t := (.array (.array (.object "java/lang/Object")))) (t' := (.array (.array .long))) (by decide) (by decide)))).ext E12).other W14 (Or.inr (slot_ne (Or.inl (hw _ (List.mem_of_getElem? (i := 12) rfl))) (Or.inl (hw _ (List.mem_of_getElem? (i := 20) rfl))) (by decide) (t := (.array (.array (.object "java/lang/Object")))) (t' := (.array (.array .byte))) (by decide) (by decide)))).other W16 (Or.inr (slot_ne (Or.inl (hw _ (List.mem_of_getElem? (i := 12) rfl))) (Or.inl (hw _ (List.mem_of_getElem? (i := 63) rfl))) (by decide) (t := (.array (.array (.object "java/lang/Object")))) (t' := .int) (by decide) (by decide)))).other W18 (Or.inr (slot_ne (Or.inl (hw _ (List.mem_of_getElem? (i := 12) rfl))) (Or.inl (hw _ (List.mem_of_getElem? (i := 34) rfl))) (by decide) (t := (.array (.array (.object "java/lang/Object")))) (t' := .int) (by decide) (by decide)))), ((((Fw10.ext E12).other W14 (Or.inr (slot_ne (Or.inl (hw _ (List.mem_of_getElem? (i := 16) rfl))) (Or.inl (hw _ (List.mem_of_getElem? (i := 20) rfl))) (by decide) (t := (.array (.array .long))) (t' := (.array (.array .byte))) (by decide) (by decide)))).other W16 (Or.inr (slot_ne (Or.inl (hw _ (List.mem_of_getElem? (i := 16) rfl))) (Or.inl (hw _ (List.mem_of_getElem? (i := 63) rfl))) (by decide) (t := (.array (.array .long))) (t' := .int) (by decide) (by decide)))).other W18 (Or.inr (slot_ne (Or.inl (hw _ (List.mem_of_getElem? (i := 16) rfl))) (Or.inl (hw _ (List.mem_of_getElem? (i := 34) rfl))) (by decide) (t := (.array (.array .long))) (t' := .int) (by decide) (by decide)))), ((Fw14.other W16 (Or.inr (slot_ne (Or.inl (hw _ (List.mem_of_getElem? (i := 20) rfl))) (Or.inl (hw _ (List.mem_of_getElem? (i := 63) rfl))) (by decide) (t := (.array (.array .byte))) (t' := .int) (by decide) (by decide)))).other W18 (Or.inr (slot_ne (Or.inl (hw _ (List.mem_of_getElem? (i := 20) rfl))) (Or.inl (hw _ (List.mem_of_getElem? (i := 34) rfl))) (by decide) (t := (.array (.array .byte))) (t' := .int) (by decide) (by decide))))⟩, ⟨_, (Fw16.other W18 (Or.inr (slot_ne (Or.inl (hw _ (List.mem_of_getElem? (i := 63) rfl))) (Or.inl (hw _ (List.mem_of_getElem? (i := 34) rfl))) (by decide) (t := .int) (t' := .int) (by decide) (by decide))))⟩, Fw18⟩

theorem ef_4c64 (m : MethodId) (x0 : Addr) : entryFrame m #[(.ref x0)] 1 = mkF m 0 #[.val (.ref x0)] [] := by first | (simp [entryFrame, mkF, argsToLocals, Value.category]; done) | rfl
def Q4c64 (Z : State) (r0 : Addr) (i0 : Addr) (t0 : Addr) (f0 : Addr) (w0 : Int32) (h0 : Heap) (n0 : Nat) (v : Option Value) (h : Heap) (L : List Loc) : Prop := v = none ∧ Fr n0 L ∧ Keep h0 h [r0] ∧ (∃ i t f : Addr, Fld Z h r0 "com/example/loopsmith/loopsmith/queue/Slots" "items" "[[Ljava/lang/Object;" (.ref i) ∧ Fld Z h r0 "com/example/loopsmith/loopsmith/queue/Slots" "times" "[[J" (.ref t) ∧ Fld Z h r0 "com/example/loopsmith/loopsmith/queue/Slots" "flags" "[[B" (.ref f)) ∧ (∃ w, Fld Z h r0 "com/example/loopsmith/loopsmith/queue/Slots" "blocks" "I" (.int w)) ∧ Fld Z h r0 "com/example/loopsmith/loopsmith/queue/Slots" "capacity" "I" (.int (0 : Int32))
set_option maxRecDepth 65536 in
set_option maxHeartbeats 40000000 in
theorem rm4c64 (l : Launch) (Z : State) (a0 : Array Value) (hw : ∀ d ∈ tables_1, d.before a0 Z = true) (ws : List Jvm.Cond) (r0 : Addr) (i0 : Addr) (t0 : Addr) (f0 : Addr) (w0 : Int32) (h0 : Heap) (n0 : Nat) (Z0 : n0 ≤ h0.size) (F_items_r0 : Fld Z h0 r0 "com/example/loopsmith/loopsmith/queue/Slots" "items" "[[Ljava/lang/Object;" (.ref i0)) (F_times_r0 : Fld Z h0 r0 "com/example/loopsmith/loopsmith/queue/Slots" "times" "[[J" (.ref t0)) (F_flags_r0 : Fld Z h0 r0 "com/example/loopsmith/loopsmith/queue/Slots" "flags" "[[B" (.ref f0)) (F_blocks_r0 : Fld Z h0 r0 "com/example/loopsmith/loopsmith/queue/Slots" "blocks" "I" (.int w0)) (F_capacity_r0 : Fld Z h0 r0 "com/example/loopsmith/loopsmith/queue/Slots" "capacity" "I" (.int (64 : Int32))) (E_r0 : Exa Z h0 r0 "com/example/loopsmith/loopsmith/queue/Slots") (g_r0 : n0 ≤ r0) :
    MetFree l (⟨"com/example/loopsmith/loopsmith/queue/Slots", "letGo", "()V"⟩ : MethodName) (head1 (Jvm.Cond.code (⟨"com/example/loopsmith/loopsmith/queue/Slots", "letGo", "()V"⟩ : MethodName) prog_42_method_5_code 1 none :: ws) ({ frames := 0, cells := 3, slots := 0, locals := 0 } : Room)) (fun a U => a = #[(.ref r0)] ∧ Z.Warmed39 U.vm ∧ U.heap = h0) (fun _ _ _ _ _ => True) (fun _ U o U' => ∃ v L, o = .returned v ∧ Q4c64 Z r0 i0 t0 f0 w0 h0 n0 v U'.heap L ∧ FrameEnd U o U' L ({ frames := 0, cells := 3, slots := 0, locals := 0 } : Room).cells ({ frames := 0, cells := 3, slots := 0, locals := 0 } : Room).slots) := by
  refine MetFree.of_bodySF (plainFor_of_name pn4) hisR ?_
  intro p e s m args below meth c s₁ Bd hml0 hP hK
  obtain ⟨rfl, hZ, hh⟩ := hP
  have hx := Bd.exec
  have hby := Bd.bytes
  have hml : c.maxLocals = 1 := hml0
  have hown : s.vm.findClass "com/example/loopsmith/loopsmith/queue/Slots" = some m.cls := findClass_of_methodNamed Bd.named
  have hnm := (name_of_methodNamed Bd.named Bd.method).1
  have X0 : Stand p l e ({ frames := 0, cells := 3, slots := 0, locals := 0 } : Room) s m #[(.ref r0)] below meth c s₁ [] 0 0 := Stand.of_body Bd
  have e0 : s₁.heap = h0 := by rw [← hh, Bd.state]; rfl
  have N0 := Fr.nil n0
  have pre0 : ∀ t, Steps p.tables e below (s₁.setTop (mkF m 0 #[rv r0] [])) t → Steps p.tables e below (s₁.setTop (entryFrame m #[(.ref r0)] 1)) t := fun t k => castTop (ef_4c64 m r0) k
  have pre1 : ∀ t, Steps p.tables e below (s₁.setTop (mkF m 1 #[rv r0] [(.ref r0)])) t → Steps p.tables e below (s₁.setTop (entryFrame m #[(.ref r0)] 1)) t := by
    intro t kt
    refine pre0 _ ?_
    show Steps p.tables e below (s₁.setTop (mkF m 0 #[rv r0] [])) _
    refine XS.aloadN X0.here hx rfl (hb hby d4_0) rfl rfl ?_
    exact kt
  obtain ⟨T2, X2, e2, st2⟩ := getF X0 hx hZ hown (host := "") (Or.inl (hw _ (List.mem_of_getElem? (i := 33) rfl))) Via.refl e0 F_capacity_r0 (g := (mkF m 1 #[rv r0] [(.ref r0)])) rfl rfl (hb hby d4_1)
  have pre3 : ∀ t, Steps p.tables e below (T2.setTop (mkF m 12 #[rv r0] [(.int (0 : Int32)), (.ref r0)])) t → Steps p.tables e below (s₁.setTop (entryFrame m #[(.ref r0)] 1)) t := by
    intro t kt
    refine pre1 _ ?_
    show Steps p.tables e below (s₁.setTop (mkF m 1 #[rv r0] [(.ref r0)])) _
    refine st2 _ ?_
    show Steps p.tables e below (T2.setTop (mkF m 4 #[rv r0] [(.int (64 : Int32))])) _
    refine XS.bipush X2.here hx rfl (hb hby d4_4) ?_
    refine XS.icmpYes X2.here hx rfl (pc0 := 6) (pc' := 10) rfl (hb hby d4_6) rfl (tlt (by decide)).2.2.1 (by decide) (by decide) ?_
    refine XS.aloadN X2.here hx rfl (hb hby d4_10) rfl rfl ?_
    refine XS.iconst X2.here hx rfl (hb hby d4_11) ?_
    exact kt
  obtain ⟨T4, h4, k4, X4, e4, E4, A4, Ex4, O4, st4⟩ := newRA X2 hx hZ hown (ty := (.object "java/lang/Object")) rfl (hw _ (List.mem_of_getElem? (i := 9) rfl)) (hw _ (List.mem_of_getElem? (i := 10) rfl)) e2 (g := (mkF m 12 #[rv r0] [(.int (0 : Int32)), (.ref r0)])) rfl (hb hby d4_12) rfl (by decide) (cap := 0) (by decide) (by decide) (by decide) (by decide) (ad := "[[Ljava/lang/Object;") rfl
  obtain ⟨b4, g4⟩ : ∃ z, z = h0.size := ⟨_, rfl⟩
  rw [← g4] at A4 Ex4 st4
  have g_b4 : n0 ≤ b4 := Nat.le_trans (Nat.le_trans Z0 (Keep.refl h0 [r0]).1) (Nat.le_of_eq g4.symm)
  have sz_b4 : h0.size ≤ b4 := Nat.le_trans (Keep.refl h0 [r0]).1 (Nat.le_of_eq g4.symm)
  have V_b4 : Arv Z h4 b4 k4 (.array (.object "java/lang/Object")) (0 : Int32) [] .null := (Arv.new A4 (by decide))
  have K4 : Keep h0 h4 [r0] := (Keep.refl h0 [r0]).ext E4
  have pre5 : ∀ t, Steps p.tables e below (T4.setTop (mkF m 15 #[rv r0] [(.ref b4), (.ref r0)])) t → Steps p.tables e below (s₁.setTop (entryFrame m #[(.ref r0)] 1)) t := by
    intro t kt
    refine pre3 _ ?_
    show Steps p.tables e below (T2.setTop (mkF m 12 #[rv r0] [(.int (0 : Int32)), (.ref r0)])) _
    refine st4 _ ?_
    exact kt
  obtain ⟨T6, h6, X6, e6, W6, st6⟩ := putF X4 hx hZ hown (host := "") (Or.inl (hw _ (List.mem_of_getElem? (i := 11) rfl))) Via.refl e4 (F_items_r0.ext E4) (E_r0.ext E4) (Or.inl (hw _ (List.mem_of_getElem? (i := 12) rfl))) (hw _ (List.mem_of_getElem? (i := 1) rfl)) (ty := (.array (.array (.object "java/lang/Object")))) (by decide) rfl rfl (g := (mkF m 15 #[rv r0] [(.ref b4), (.ref r0)])) rfl rfl (hb hby d4_15)
  have Fw6 : Fld Z h6 r0 "com/example/loopsmith/loopsmith/queue/Slots" "items" "[[Ljava/lang/Object;" (.ref b4) := (F_items_r0.ext E4).same W6
  have K6 : Keep h0 h6 [r0] := K4.wr W6 (Or.inl (List.mem_of_getElem? (i := 0) rfl))
  have N6 := Fr.snoc X6 N0 g_r0
  have pre7 : ∀ t, Steps p.tables e below (T6.setTop (mkF m 20 #[rv r0] [(.int (0 : Int32)), (.ref r0)])) t → Steps p.tables e below (s₁.setTop (entryFrame m #[(.ref r0)] 1)) t := by
    intro t kt
    refine pre5 _ ?_
    show Steps p.tables e below (T4.setTop (mkF m 15 #[rv r0] [(.ref b4), (.ref r0)])) _
    refine st6 _ ?_
    show Steps p.tables e below (T6.setTop (mkF m 18 #[rv r0] [])) _
    refine XS.aloadN X6.here hx rfl (hb hby d4_18) rfl rfl ?_
    refine XS.iconst X6.here hx rfl (hb hby d4_19) ?_
    exact kt
  obtain ⟨T8, h8, k8, X8, e8, E8, A8, Ex8, O8, st8⟩ := newRA X6 hx hZ hown (ty := .long) rfl (hw _ (List.mem_of_getElem? (i := 13) rfl)) (hw _ (List.mem_of_getElem? (i := 14) rfl)) e6 (g := (mkF m 20 #[rv r0] [(.int (0 : Int32)), (.ref r0)])) rfl (hb hby d4_20) rfl (by decide) (cap := 0) (by decide) (by decide) (by decide) (by decide) (ad := "[[J") rfl
  obtain ⟨b8, g8⟩ : ∃ z, z = h6.size := ⟨_, rfl⟩
  rw [← g8] at A8 Ex8 st8
  have g_b8 : n0 ≤ b8 := Nat.le_trans (Nat.le_trans Z0 K6.1) (Nat.le_of_eq g8.symm)
  have sz_b8 : h0.size ≤ b8 := Nat.le_trans K6.1 (Nat.le_of_eq g8.symm)
  have V_b8 : Arv Z h8 b8 k8 (.array .long) (0 : Int32) [] .null := (Arv.new A8 (by decide))
  have K8 : Keep h0 h8 [r0] := K6.ext E8
  have pre9 : ∀ t, Steps p.tables e below (T8.setTop (mkF m 23 #[rv r0] [(.ref b8), (.ref r0)])) t → Steps p.tables e below (s₁.setTop (entryFrame m #[(.ref r0)] 1)) t := by
    intro t kt
    refine pre7 _ ?_
    show Steps p.tables e below (T6.setTop (mkF m 20 #[rv r0] [(.int (0 : Int32)), (.ref r0)])) _
    refine st8 _ ?_
    exact kt
  obtain ⟨T10, h10, X10, e10, W10, st10⟩ := putF X8 hx hZ hown (host := "") (Or.inl (hw _ (List.mem_of_getElem? (i := 15) rfl))) Via.refl e8 (((F_times_r0.ext E4).other W6 (Or.inr (slot_ne (Or.inl (hw _ (List.mem_of_getElem? (i := 16) rfl))) (Or.inl (hw _ (List.mem_of_getElem? (i := 12) rfl))) (by decide) (t := (.array (.array .long))) (t' := (.array (.array (.object "java/lang/Object")))) (by decide) (by decide)))).ext E8) (((E_r0.ext E4).wr W6).ext E8) (Or.inl (hw _ (List.mem_of_getElem? (i := 16) rfl))) (hw _ (List.mem_of_getElem? (i := 1) rfl)) (ty := (.array (.array .long))) (by decide) rfl rfl (g := (mkF m 23 #[rv r0] [(.ref b8), (.ref r0)])) rfl rfl (hb hby d4_23)
  have Fw10 : Fld Z h10 r0 "com/example/loopsmith/loopsmith/queue/Slots" "times" "[[J" (.ref b8) := (((F_times_r0.ext E4).other W6 (Or.inr (slot_ne (Or.inl (hw _ (List.mem_of_getElem? (i := 16) rfl))) (Or.inl (hw _ (List.mem_of_getElem? (i := 12) rfl))) (by decide) (t := (.array (.array .long))) (t' := (.array (.array (.object "java/lang/Object")))) (by decide) (by decide)))).ext E8).same W10
  have K10 : Keep h0 h10 [r0] := K8.wr W10 (Or.inl (List.mem_of_getElem? (i := 0) rfl))
  have N10 := Fr.snoc X10 N6 g_r0
  have pre11 : ∀ t, Steps p.tables e below (T10.setTop (mkF m 28 #[rv r0] [(.int (0 : Int32)), (.ref r0)])) t → Steps p.tables e below (s₁.setTop (entryFrame m #[(.ref r0)] 1)) t := by
    intro t kt
    refine pre9 _ ?_
    show Steps p.tables e below (T8.setTop (mkF m 23 #[rv r0] [(.ref b8), (.ref r0)])) _
    refine st10 _ ?_
    show Steps p.tables e below (T10.setTop (mkF m 26 #[rv r0] [])) _
    refine XS.aloadN X10.here hx rfl (hb hby d4_26) rfl rfl ?_
    refine XS.iconst X10.here hx rfl (hb hby d4_27) ?_
    exact kt
  obtain ⟨T12, h12, k12, X12, e12, E12, A12, Ex12, O12, st12⟩ := newRA X10 hx hZ hown (ty := .byte) rfl (hw _ (List.mem_of_getElem? (i := 17) rfl)) (hw _ (List.mem_of_getElem? (i := 18) rfl)) e10 (g := (mkF m 28 #[rv r0] [(.int (0 : Int32)), (.ref r0)])) rfl (hb hby d4_28) rfl (by decide) (cap := 0) (by decide) (by decide) (by decide) (by decide) (ad := "[[B") rfl
  obtain ⟨b12, g12⟩ : ∃ z, z = h10.size := ⟨_, rfl⟩
  rw [← g12] at A12 Ex12 st12
  have g_b12 : n0 ≤ b12 := Nat.le_trans (Nat.le_trans Z0 K10.1) (Nat.le_of_eq g12.symm)
  have sz_b12 : h0.size ≤ b12 := Nat.le_trans K10.1 (Nat.le_of_eq g12.symm)
  have V_b12 : Arv Z h12 b12 k12 (.array .byte) (0 : Int32) [] .null := (Arv.new A12 (by decide))
  have K12 : Keep h0 h12 [r0] := K10.ext E12
  have pre13 : ∀ t, Steps p.tables e below (T12.setTop (mkF m 31 #[rv r0] [(.ref b12), (.ref r0)])) t → Steps p.tables e below (s₁.setTop (entryFrame m #[(.ref r0)] 1)) t := by
    intro t kt
    refine pre11 _ ?_
    show Steps p.tables e below (T10.setTop (mkF m 28 #[rv r0] [(.int (0 : Int32)), (.ref r0)])) _
    refine st12 _ ?_
    exact kt
  obtain ⟨T14, h14, X14, e14, W14, st14⟩ := putF X12 hx hZ hown (host := "") (Or.inl (hw _ (List.mem_of_getElem? (i := 19) rfl))) Via.refl e12 (((((F_flags_r0.ext E4).other W6 (Or.inr (slot_ne (Or.inl (hw _ (List.mem_of_getElem? (i := 20) rfl))) (Or.inl (hw _ (List.mem_of_getElem? (i := 12) rfl))) (by decide) (t := (.array (.array .byte))) (t' := (.array (.array (.object "java/lang/Object")))) (by decide) (by decide)))).ext E8).other W10 (Or.inr (slot_ne (Or.inl (hw _ (List.mem_of_getElem? (i := 20) rfl))) (Or.inl (hw _ (List.mem_of_getElem? (i := 16) rfl))) (by decide) (t := (.array (.array .byte))) (t' := (.array (.array .long))) (by decide) (by decide)))).ext E12) (((((E_r0.ext E4).wr W6).ext E8).wr W10).ext E12) (Or.inl (hw _ (List.mem_of_getElem? (i := 20) rfl))) (hw _ (List.mem_of_getElem? (i := 1) rfl)) (ty := (.array (.array .byte))) (by decide) rfl rfl (g := (mkF m 31 #[rv r0] [(.ref b12), (.ref r0)])) rfl rfl (hb hby d4_31)
  have Fw14 : Fld Z h14 r0 "com/example/loopsmith/loopsmith/queue/Slots" "flags" "[[B" (.ref b12) := (((((F_flags_r0.ext E4).other W6 (Or.inr (slot_ne (Or.inl (hw _ (List.mem_of_getElem? (i := 20) rfl))) (Or.inl (hw _ (List.mem_of_getElem? (i := 12) rfl))) (by decide) (t := (.array (.array .byte))) (t' := (.array (.array (.object "java/lang/Object")))) (by decide) (by decide)))).ext E8).other W10 (Or.inr (slot_ne (Or.inl (hw _ (List.mem_of_getElem? (i := 20) rfl))) (Or.inl (hw _ (List.mem_of_getElem? (i := 16) rfl))) (by decide) (t := (.array (.array .byte))) (t' := (.array (.array .long))) (by decide) (by decide)))).ext E12).same W14
  have K14 : Keep h0 h14 [r0] := K12.wr W14 (Or.inl (List.mem_of_getElem? (i := 0) rfl))
  have N14 := Fr.snoc X14 N10 g_r0
  have pre15 : ∀ t, Steps p.tables e below (T14.setTop (mkF m 36 #[rv r0] [(.int (0 : Int32)), (.ref r0)])) t → Steps p.tables e below (s₁.setTop (entryFrame m #[(.ref r0)] 1)) t := by
    intro t kt
    refine pre13 _ ?_
    show Steps p.tables e below (T12.setTop (mkF m 31 #[rv r0] [(.ref b12), (.ref r0)])) _
    refine st14 _ ?_
    show Steps p.tables e below (T14.setTop (mkF m 34 #[rv r0] [])) _
    refine XS.aloadN X14.here hx rfl (hb hby d4_34) rfl rfl ?_
    refine XS.iconst X14.here hx rfl (hb hby d4_35) ?_
    exact kt
  obtain ⟨T16, h16, X16, e16, W16, st16⟩ := putF X14 hx hZ hown (host := "") (Or.inl (hw _ (List.mem_of_getElem? (i := 62) rfl))) Via.refl e14 ((((((F_blocks_r0.ext E4).other W6 (Or.inr (slot_ne (Or.inl (hw _ (List.mem_of_getElem? (i := 63) rfl))) (Or.inl (hw _ (List.mem_of_getElem? (i := 12) rfl))) (by decide) (t := .int) (t' := (.array (.array (.object "java/lang/Object")))) (by decide) (by decide)))).ext E8).other W10 (Or.inr (slot_ne (Or.inl (hw _ (List.mem_of_getElem? (i := 63) rfl))) (Or.inl (hw _ (List.mem_of_getElem? (i := 16) rfl))) (by decide) (t := .int) (t' := (.array (.array .long))) (by decide) (by decide)))).ext E12).other W14 (Or.inr (slot_ne (Or.inl (hw _ (List.mem_of_getElem? (i := 63) rfl))) (Or.inl (hw _ (List.mem_of_getElem? (i := 20) rfl))) (by decide) (t := .int) (t' := (.array (.array .byte))) (by decide) (by decide)))) ((((((E_r0.ext E4).wr W6).ext E8).wr W10).ext E12).wr W14) (Or.inl (hw _ (List.mem_of_getElem? (i := 63) rfl))) (hw _ (List.mem_of_getElem? (i := 1) rfl)) (ty := .int) (by decide) rfl rfl (g := (mkF m 36 #[rv r0] [(.int (0 : Int32)), (.ref r0)])) rfl rfl (hb hby d4_36)
  have Fw16 : Fld Z h16 r0 "com/example/loopsmith/loopsmith/queue/Slots" "blocks" "I" (.int (0 : Int32)) := ((((((F_blocks_r0.ext E4).other W6 (Or.inr (slot_ne (Or.inl (hw _ (List.mem_of_getElem? (i := 63) rfl))) (Or.inl (hw _ (List.mem_of_getElem? (i := 12) rfl))) (by decide) (t := .int) (t' := (.array (.array (.object "java/lang/Object")))) (by decide) (by decide)))).ext E8).other W10 (Or.inr (slot_ne (Or.inl (hw _ (List.mem_of_getElem? (i := 63) rfl))) (Or.inl (hw _ (List.mem_of_getElem? (i := 16) rfl))) (by decide) (t := .int) (t' := (.array (.array .long))) (by decide) (by decide)))).ext E12).other W14 (Or.inr (slot_ne (Or.inl (hw _ (List.mem_of_getElem? (i := 63) rfl))) (Or.inl (hw _ (List.mem_of_getElem? (i := 20) rfl))) (by decide) (t := .int) (t' := (.array (.array .byte))) (by decide) (by decide)))).same W16
  have K16 : Keep h0 h16 [r0] := K14.wr W16 (Or.inl (List.mem_of_getElem? (i := 0) rfl))
  have N16 := Fr.snoc X16 N14 g_r0
  have pre17 : ∀ t, Steps p.tables e below (T16.setTop (mkF m 41 #[rv r0] [(.int (0 : Int32)), (.ref r0)])) t → Steps p.tables e below (s₁.setTop (entryFrame m #[(.ref r0)] 1)) t := by
    intro t kt
    refine pre15 _ ?_
    show Steps p.tables e below (T14.setTop (mkF m 36 #[rv r0] [(.int (0 : Int32)), (.ref r0)])) _
    refine st16 _ ?_
    show Steps p.tables e below (T16.setTop (mkF m 39 #[rv r0] [])) _
    refine XS.aloadN X16.here hx rfl (hb hby d4_39) rfl rfl ?_
    refine XS.iconst X16.here hx rfl (hb hby d4_40) ?_
    exact kt
  obtain ⟨T18, h18, X18, e18, W18, st18⟩ := putF X16 hx hZ hown (host := "") (Or.inl (hw _ (List.mem_of_getElem? (i := 33) rfl))) Via.refl e16 (((((((F_capacity_r0.ext E4).other W6 (Or.inr (slot_ne (Or.inl (hw _ (List.mem_of_getElem? (i := 34) rfl))) (Or.inl (hw _ (List.mem_of_getElem? (i := 12) rfl))) (by decide) (t := .int) (t' := (.array (.array (.object "java/lang/Object")))) (by decide) (by decide)))).ext E8).other W10 (Or.inr (slot_ne (Or.inl (hw _ (List.mem_of_getElem? (i := 34) rfl))) (Or.inl (hw _ (List.mem_of_getElem? (i := 16) rfl))) (by decide) (t := .int) (t' := (.array (.array .long))) (by decide) (by decide)))).ext E12).other W14 (Or.inr (slot_ne (Or.inl (hw _ (List.mem_of_getElem? (i := 34) rfl))) (Or.inl (hw _ (List.mem_of_getElem? (i := 20) rfl))) (by decide) (t := .int) (t' := (.array (.array .byte))) (by decide) (by decide)))).other W16 (Or.inr (slot_ne (Or.inl (hw _ (List.mem_of_getElem? (i := 34) rfl))) (Or.inl (hw _ (List.mem_of_getElem? (i := 63) rfl))) (by decide) (t := .int) (t' := .int) (by decide) (by decide)))) (((((((E_r0.ext E4).wr W6).ext E8).wr W10).ext E12).wr W14).wr W16) (Or.inl (hw _ (List.mem_of_getElem? (i := 34) rfl))) (hw _ (List.mem_of_getElem? (i := 1) rfl)) (ty := .int) (by decide) rfl rfl (g := (mkF m 41 #[rv r0] [(.int (0 : Int32)), (.ref r0)])) rfl rfl (hb hby d4_41)
  have Fw18 : Fld Z h18 r0 "com/example/loopsmith/loopsmith/queue/Slots" "capacity" "I" (.int (0 : Int32)) := (((((((F_capacity_r0.ext E4).other W6 (Or.inr (slot_ne (Or.inl (hw _ (List.mem_of_getElem? (i := 34) rfl))) (Or.inl (hw _ (List.mem_of_getElem? (i := 12) rfl))) (by decide) (t := .int) (t' := (.array (.array (.object "java/lang/Object")))) (by decide) (by decide)))).ext E8).other W10 (Or.inr (slot_ne (Or.inl (hw _ (List.mem_of_getElem? (i := 34) rfl))) (Or.inl (hw _ (List.mem_of_getElem? (i := 16) rfl))) (by decide) (t := .int) (t' := (.array (.array .long))) (by decide) (by decide)))).ext E12).other W14 (Or.inr (slot_ne (Or.inl (hw _ (List.mem_of_getElem? (i := 34) rfl))) (Or.inl (hw _ (List.mem_of_getElem? (i := 20) rfl))) (by decide) (t := .int) (t' := (.array (.array .byte))) (by decide) (by decide)))).other W16 (Or.inr (slot_ne (Or.inl (hw _ (List.mem_of_getElem? (i := 34) rfl))) (Or.inl (hw _ (List.mem_of_getElem? (i := 63) rfl))) (by decide) (t := .int) (t' := .int) (by decide) (by decide)))).same W18
  have K18 : Keep h0 h18 [r0] := K16.wr W18 (Or.inl (List.mem_of_getElem? (i := 0) rfl))
  have N18 := Fr.snoc X18 N16 g_r0
  have pre19 : ∀ t, Steps p.tables e below (T18.setTop (mkF m 44 #[rv r0] [])) t → Steps p.tables e below (s₁.setTop (entryFrame m #[(.ref r0)] 1)) t := by
    intro t kt
    refine pre17 _ ?_
    show Steps p.tables e below (T16.setTop (mkF m 41 #[rv r0] [(.int (0 : Int32)), (.ref r0)])) _
    refine st18 _ ?_
    exact kt
  obtain ⟨fs, hr, hrun, hended, hW, hsame⟩ := X18.leave (v := none) (fun _ => rfl)
  refine ⟨_, _, pre19 _ ?_, hrun, hended, _, _, rfl, ?_, ⟨_, rfl⟩, hW, hsame.mono (by decide) (by decide)⟩
  · show Steps p.tables e below (T18.setTop (mkF m 44 #[rv r0] [])) _
    exact X18.returnOut hx Bd.returns (hb hby d4_44) hr
  · show Q4c64 Z r0 i0 t0 f0 w0 h0 n0 _ T18.heap _
    rw [e18]
    exact ⟨rfl, N18, K18, ⟨_, _, _, ((((((Fw6.ext E8).other W10 (Or.inr (slot_ne (Or.inl (hw _ (List.mem_of_getElem? (i := 12) rfl))) (Or.inl (hw _ (List.mem_of_getElem? (i := 16) rfl))) (by decide) (t := (.array (.array (.object "java/lang/Object")))) (t' := (.array (.array .long))) (by decide) (by decide)))).ext E12).other W14 (Or.inr (slot_ne (Or.inl (hw _ (List.mem_of_getElem? (i := 12) rfl))) (Or.inl (hw _ (List.mem_of_getElem? (i := 20) rfl))) (by decide) (t := (.array (.array (.object "java/lang/Object")))) (t' := (.array (.array .byte))) (by decide) (by decide)))).other W16 (Or.inr (slot_ne (Or.inl (hw _ (List.mem_of_getElem? (i := 12) rfl))) (Or.inl (hw _ (List.mem_of_getElem? (i := 63) rfl))) (by decide) (t := (.array (.array (.object "java/lang/Object")))) (t' := .int) (by decide) (by decide)))).other W18 (Or.inr (slot_ne (Or.inl (hw _ (List.mem_of_getElem? (i := 12) rfl))) (Or.inl (hw _ (List.mem_of_getElem? (i := 34) rfl))) (by decide) (t := (.array (.array (.object "java/lang/Object")))) (t' := .int) (by decide) (by decide)))), ((((Fw10.ext E12).other W14 (Or.inr (slot_ne (Or.inl (hw _ (List.mem_of_getElem? (i := 16) rfl))) (Or.inl (hw _ (List.mem_of_getElem? (i := 20) rfl))) (by decide) (t := (.array (.array .long))) (t' := (.array (.array .byte))) (by decide) (by decide)))).other W16 (Or.inr (slot_ne (Or.inl (hw _ (List.mem_of_getElem? (i := 16) rfl))) (Or.inl (hw _ (List.mem_of_getElem? (i := 63) rfl))) (by decide) (t := (.array (.array .long))) (t' := .int) (by decide) (by decide)))).other W18 (Or.inr (slot_ne (Or.inl (hw _ (List.mem_of_getElem? (i := 16) rfl))) (Or.inl (hw _ (List.mem_of_getElem? (i := 34) rfl))) (by decide) (t := (.array (.array .long))) (t' := .int) (by decide) (by decide)))), ((Fw14.other W16 (Or.inr (slot_ne (Or.inl (hw _ (List.mem_of_getElem? (i := 20) rfl))) (Or.inl (hw _ (List.mem_of_getElem? (i := 63) rfl))) (by decide) (t := (.array (.array .byte))) (t' := .int) (by decide) (by decide)))).other W18 (Or.inr (slot_ne (Or.inl (hw _ (List.mem_of_getElem? (i := 20) rfl))) (Or.inl (hw _ (List.mem_of_getElem? (i := 34) rfl))) (by decide) (t := (.array (.array .byte))) (t' := .int) (by decide) (by decide))))⟩, ⟨_, (Fw16.other W18 (Or.inr (slot_ne (Or.inl (hw _ (List.mem_of_getElem? (i := 63) rfl))) (Or.inl (hw _ (List.mem_of_getElem? (i := 34) rfl))) (by decide) (t := .int) (t' := .int) (by decide) (by decide))))⟩, Fw18⟩
theorem pn10 : plainName "java/lang/Number" = true := by first | (simp [plainName, overriddenIn]; done) | decide +kernel
theorem d15_0 : decode jdk_18_method_1_code 0 = .ok (.aload_n 0, 1) := by decide +kernel
theorem d15_1 : decode jdk_18_method_1_code 1 = .ok (.invokespecial 1, 3) := by decide +kernel
theorem d15_4 : decode jdk_18_method_1_code 4 = .ok (.return_, 1) := by decide +kernel
theorem ef_15 (m : MethodId) (x0 : Addr) : entryFrame m #[(.ref x0)] 1 = mkF m 0 #[.val (.ref x0)] [] := by first | (simp [entryFrame, mkF, argsToLocals, Value.category]; done) | rfl
def Q15 (Z : State) (r0 : Addr) (h0 : Heap) (n0 : Nat) (v : Option Value) (h : Heap) (L : List Loc) : Prop := v = none ∧ Fr n0 L ∧ h = h0
set_option maxRecDepth 65536 in
set_option maxHeartbeats 40000000 in
theorem rm15 (l : Launch) (Z : State) (a0 : Array Value) (hw : ∀ d ∈ tables_1, d.before a0 Z = true) (ws : List Jvm.Cond) (r0 : Addr) (h0 : Heap) (n0 : Nat) (Z0 : n0 ≤ h0.size) :
    MetFree l (⟨"java/lang/Number", "<init>", "()V"⟩ : MethodName) (head1 (Jvm.Cond.code (⟨"java/lang/Number", "<init>", "()V"⟩ : MethodName) jdk_18_method_1_code 1 none :: ws) ({ frames := 1, cells := 0, slots := 0, locals := 12 } : Room)) (fun a U => a = #[(.ref r0)] ∧ Z.Warmed39 U.vm ∧ U.heap = h0) (fun _ _ _ _ _ => True) (fun _ U o U' => ∃ v L, o = .returned v ∧ Q15 Z r0 h0 n0 v U'.heap L ∧ FrameEnd U o U' L ({ frames := 1, cells := 0, slots := 0, locals := 12 } : Room).cells ({ frames := 1, cells := 0, slots := 0, locals := 12 } : Room).slots) := by
  refine MetFree.of_bodySF (plainFor_of_name pn10) hisR ?_
  intro p e s m args below meth c s₁ Bd hml0 hP hK
  obtain ⟨rfl, hZ, hh⟩ := hP
  have hx := Bd.exec
  have hby := Bd.bytes
  have hml : c.maxLocals = 1 := hml0
  have hown : s.vm.findClass "java/lang/Number" = some m.cls := findClass_of_methodNamed Bd.named
  have hnm := (name_of_methodNamed Bd.named Bd.method).1
  have X0 : Stand p l e ({ frames := 1, cells := 0, slots := 0, locals := 12 } : Room) s m #[(.ref r0)] below meth c s₁ [] 0 0 := Stand.of_body Bd
  have e0 : s₁.heap = h0 := by rw [← hh, Bd.state]; rfl
  have N0 := Fr.nil n0
  have pre0 : ∀ t, Steps p.tables e below (s₁.setTop (mkF m 0 #[rv r0] [])) t → Steps p.tables e below (s₁.setTop (entryFrame m #[(.ref r0)] 1)) t := fun t k => castTop (ef_15 m r0) k
  have pre1 : ∀ t, Steps p.tables e below (s₁.setTop (mkF m 1 #[rv r0] [(.ref r0)])) t → Steps p.tables e below (s₁.setTop (entryFrame m #[(.ref r0)] 1)) t := by
    intro t kt
    refine pre0 _ ?_
    show Steps p.tables e below (s₁.setTop (mkF m 0 #[rv r0] [])) _
    refine XS.aloadN X0.here hx rfl (hb hby d15_0) rfl rfl ?_
    exact kt
  obtain ⟨T2, X2, e2, st2⟩ := initO X0 hx hZ hown (hw _ (List.mem_of_getElem? (i := 104) rfl)) (hw _ (List.mem_of_getElem? (i := 7) rfl)) (hw _ (List.mem_of_getElem? (i := 8) rfl)) e0 (g := (mkF m 1 #[rv r0] [(.ref r0)])) rfl (by rw [hml]; rfl) rfl (hb hby d15_1) (by decide) (W := 0) (by show 2 * 0 + _ ≤ _; exact Nat.le_of_eq rfl) (by decide)
  have pre3 : ∀ t, Steps p.tables e below (T2.setTop (mkF m 4 #[rv r0] [])) t → Steps p.tables e below (s₁.setTop (entryFrame m #[(.ref r0)] 1)) t := by
    intro t kt
    refine pre1 _ ?_
    show Steps p.tables e below (s₁.setTop (mkF m 1 #[rv r0] [(.ref r0)])) _
    refine st2 _ ?_
    exact kt
  obtain ⟨fs, hr, hrun, hended, hW, hsame⟩ := X2.leave (v := none) (fun _ => rfl)
  refine ⟨_, _, pre3 _ ?_, hrun, hended, _, _, rfl, ?_, ⟨_, rfl⟩, hW, hsame.mono (by decide) (by decide)⟩
  · show Steps p.tables e below (T2.setTop (mkF m 4 #[rv r0] [])) _
    exact X2.returnOut hx Bd.returns (hb hby d15_4) hr
  · show Q15 Z r0 h0 n0 _ T2.heap _
    rw [e2]
    exact ⟨rfl, N0, rfl⟩
theorem pn11 : plainName "java/lang/Integer" = true := by first | (simp [plainName, overriddenIn]; done) | decide +kernel
theorem d14_0 : decode jdk_33_method_23_code 0 = .ok (.aload_n 0, 1) := by decide +kernel
theorem d14_1 : decode jdk_33_method_23_code 1 = .ok (.invokespecial 202, 3) := by decide +kernel
theorem d14_4 : decode jdk_33_method_23_code 4 = .ok (.aload_n 0, 1) := by decide +kernel
theorem d14_5 : decode jdk_33_method_23_code 5 = .ok (.iload_n 1, 1) := by decide +kernel
theorem d14_6 : decode jdk_33_method_23_code 6 = .ok (.putfield 205, 3) := by decide +kernel
theorem d14_9 : decode jdk_33_method_23_code 9 = .ok (.return_, 1) := by decide +kernel
theorem ef_14 (m : MethodId) (x0 : Addr) (x1 : Int32) : entryFrame m #[(.ref x0), (.int x1)] 2 = mkF m 0 #[.val (.ref x0), .val (.int x1)] [] := by first | (simp [entryFrame, mkF, argsToLocals, Value.category]; done) | rfl
def Q14 (Z : State) (r0 : Addr) (p1 : Int32) (h0 : Heap) (n0 : Nat) (v : Option Value) (h : Heap) (L : List Loc) : Prop := v = none ∧ Fr n0 L ∧ Keep h0 h [r0]
set_option maxRecDepth 65536 in
set_option maxHeartbeats 40000000 in
theorem rm14 (l : Launch) (Z : State) (a0 : Array Value) (hw : ∀ d ∈ tables_1, d.before a0 Z = true) (ws : List Jvm.Cond) (r0 : Addr) (p1 : Int32) (h0 : Heap) (n0 : Nat) (Z0 : n0 ≤ h0.size) (F_value_r0 : Fld Z h0 r0 "java/lang/Integer" "value" "I" (.int (0 : Int32))) (E_r0 : Exa Z h0 r0 "java/lang/Integer") (g_r0 : n0 ≤ r0) :
    MetFree l (⟨"java/lang/Integer", "<init>", "(I)V"⟩ : MethodName) (head1 (Jvm.Cond.code (⟨"java/lang/Integer", "<init>", "(I)V"⟩ : MethodName) jdk_33_method_23_code 2 none :: ws) ({ frames := 2, cells := 0, slots := 0, locals := 24 } : Room)) (fun a U => a = #[(.ref r0), (.int p1)] ∧ Z.Warmed39 U.vm ∧ U.heap = h0) (fun _ _ _ _ _ => True) (fun _ U o U' => ∃ v L, o = .returned v ∧ Q14 Z r0 p1 h0 n0 v U'.heap L ∧ FrameEnd U o U' L ({ frames := 2, cells := 0, slots := 0, locals := 24 } : Room).cells ({ frames := 2, cells := 0, slots := 0, locals := 24 } : Room).slots) := by
  refine MetFree.of_bodySF (plainFor_of_name pn11) hisR ?_
  intro p e s m args below meth c s₁ Bd hml0 hP hK
  obtain ⟨rfl, hZ, hh⟩ := hP
  have hx := Bd.exec
  have hby := Bd.bytes
  have hml : c.maxLocals = 2 := hml0
  have hown : s.vm.findClass "java/lang/Integer" = some m.cls := findClass_of_methodNamed Bd.named
  have hnm := (name_of_methodNamed Bd.named Bd.method).1
  have X0 : Stand p l e ({ frames := 2, cells := 0, slots := 0, locals := 24 } : Room) s m #[(.ref r0), (.int p1)] below meth c s₁ [] 0 0 := Stand.of_body Bd
  have e0 : s₁.heap = h0 := by rw [← hh, Bd.state]; rfl
  have N0 := Fr.nil n0
  have pre0 : ∀ t, Steps p.tables e below (s₁.setTop (mkF m 0 #[rv r0, iv p1] [])) t → Steps p.tables e below (s₁.setTop (entryFrame m #[(.ref r0), (.int p1)] 2)) t := fun t k => castTop (ef_14 m r0 p1) k
  have pre1 : ∀ t, Steps p.tables e below (s₁.setTop (mkF m 1 #[rv r0, iv p1] [(.ref r0)])) t → Steps p.tables e below (s₁.setTop (entryFrame m #[(.ref r0), (.int p1)] 2)) t := by
    intro t kt
    refine pre0 _ ?_
    show Steps p.tables e below (s₁.setTop (mkF m 0 #[rv r0, iv p1] [])) _
    refine XS.aloadN X0.here hx rfl (hb hby d14_0) rfl rfl ?_
    exact kt
  obtain ⟨_, _, ⟨T2, L2, k2, n2⟩, -, X2, ⟨Lc2, hQ2, l2, y2, z2⟩, st2⟩ := X0.specialBack hx (y := (⟨"java/lang/Number", "<init>", "()V"⟩ : MethodName)) rfl hown (mvT hZ (hw _ (List.mem_of_getElem? (i := 98) rfl))) (mvT hZ (hw _ (List.mem_of_getElem? (i := 99) rfl))) (mvT hZ (hw _ (List.mem_of_getElem? (i := 103) rfl))) (by decide) (backOf (W := 0) (rm15 l Z a0 hw [] r0 h0 n0 (Nat.le_trans Z0 (Keep.refl h0 [r0]).1)) hZ (hw _ (List.mem_of_getElem? (i := 103) rfl)) (hw _ (List.mem_of_getElem? (i := 102) rfl)) (by decide) (by decide)) (g := (mkF m 1 #[rv r0, iv p1] [(.ref r0)])) rfl (by rw [hml]; rfl) (Steps.refl _) (a := r0) (argsL := []) (rest := []) (lenOf pd6 rfl) rfl (by show 2 * 0 + _ ≤ _; exact Nat.le_of_eq rfl) (hb hby d14_1) (fun _ _ => ⟨rfl, e0, (by decide : 0 + 0 ≤ _), (by decide : 0 + 0 ≤ _)⟩)
  dsimp only [Pt.U, Pt.locs, Pt.cells, Pt.slots] at X2 l2 y2 z2 st2 hQ2
  subst l2 y2 z2
  obtain ⟨rfl, N2q, hh2⟩ := hQ2
  have N2 := Fr.app N0 N2q
  have pre3 : ∀ t, Steps p.tables e below (T2.setTop (mkF m 6 #[rv r0, iv p1] [(.int p1), (.ref r0)])) t → Steps p.tables e below (s₁.setTop (entryFrame m #[(.ref r0), (.int p1)] 2)) t := by
    intro t kt
    refine pre1 _ ?_
    show Steps p.tables e below (s₁.setTop (mkF m 1 #[rv r0, iv p1] [(.ref r0)])) _
    refine st2.trans ?_
    show Steps p.tables e below (T2.setTop (mkF m 4 #[rv r0, iv p1] [])) _
    refine XS.aloadN X2.here hx rfl (hb hby d14_4) rfl rfl ?_
    refine XS.iloadN X2.here hx rfl (hb hby d14_5) rfl ?_
    exact kt
  obtain ⟨T4, h4, X4, e4, W4, st4⟩ := putF X2 hx hZ hown (host := "") (Or.inl (hw _ (List.mem_of_getElem? (i := 105) rfl))) Via.refl hh2 F_value_r0 E_r0 (Or.inr ⟨(hw _ (List.mem_of_getElem? (i := 106) rfl)), rfl, hnm⟩) (hw _ (List.mem_of_getElem? (i := 93) rfl)) (ty := .int) (by decide) rfl rfl (g := (mkF m 6 #[rv r0, iv p1] [(.int p1), (.ref r0)])) rfl rfl (hb hby d14_6)
  have Fw4 : Fld Z h4 r0 "java/lang/Integer" "value" "I" (.int p1) := F_value_r0.same W4
  have K4 : Keep h0 h4 [r0] := (Keep.refl h0 [r0]).wr W4 (Or.inl (List.mem_of_getElem? (i := 0) rfl))
  have N4 := Fr.snoc X4 N2 g_r0
  have pre5 : ∀ t, Steps p.tables e below (T4.setTop (mkF m 9 #[rv r0, iv p1] [])) t → Steps p.tables e below (s₁.setTop (entryFrame m #[(.ref r0), (.int p1)] 2)) t := by
    intro t kt
    refine pre3 _ ?_
    show Steps p.tables e below (T2.setTop (mkF m 6 #[rv r0, iv p1] [(.int p1), (.ref r0)])) _
    refine st4 _ ?_
    exact kt
  obtain ⟨fs, hr, hrun, hended, hW, hsame⟩ := X4.leave (v := none) (fun _ => rfl)
  refine ⟨_, _, pre5 _ ?_, hrun, hended, _, _, rfl, ?_, ⟨_, rfl⟩, hW, hsame.mono (by decide) (by decide)⟩
  · show Steps p.tables e below (T4.setTop (mkF m 9 #[rv r0, iv p1] [])) _
    exact X4.returnOut hx Bd.returns (hb hby d14_9) hr
  · show Q14 Z r0 p1 h0 n0 _ T4.heap _
    rw [e4]
    exact ⟨rfl, N4, K4⟩
theorem own_cin (p : Int32) {c : Cell} (h1 : ¬ (p < (-128 : Int32))) (h2 : ¬ ((127 : Int32) < p)) (hs : c.slots.size = (256 : Int32).toNatClampNeg) : ¬ ((p + (128 : Int32)) < 0 ∨ c.slots.size ≤ (p + (128 : Int32)).toNatClampNeg) := by
  rw [Int32.lt_iff_toInt_lt] at h1 h2
  have z1 : (-128 : Int32).toInt = -128 := by decide
  have z2 : (127 : Int32).toInt = 127 := by decide
  have z3 : (128 : Int32).toInt = 128 := by decide
  have z4 : (256 : Int32).toNatClampNeg = 256 := by decide
  have z0 : (0 : Int32).toInt = 0 := by decide
  have k := c_iadd p 128
  have r := rng32 (p + 128)
  rw [z3] at k
  rw [z1] at h1; rw [z2] at h2
  have e : (p + 128).toInt = p.toInt + 128 := by omega
  have n : ¬ (p + 128) < 0 := by rw [Int32.lt_iff_toInt_lt, e, z0]; omega
  have m := nat_of n
  rw [hs, z4]
  rintro (q | q)
  · exact n q
  · omega
theorem d3_0 : decode jdk_33_method_22_code 0 = .ok (.iload_n 0, 1) := by decide +kernel
theorem d3_1 : decode jdk_33_method_22_code 1 = .ok (.bipush (-128), 2) := by decide +kernel
theorem d3_3 : decode jdk_33_method_22_code 3 = .ok (.if_icmp .lt 20, 3) := by decide +kernel
theorem d3_23 : decode jdk_33_method_22_code 23 = .ok (.new 1, 3) := by decide +kernel
theorem d3_26 : decode jdk_33_method_22_code 26 = .ok (.dup, 1) := by decide +kernel
theorem d3_27 : decode jdk_33_method_22_code 27 = .ok (.iload_n 0, 1) := by decide +kernel
theorem pd12 : parseMethodDescriptor "(I)V" = some ⟨[.int], none⟩ := by decide +kernel
theorem d3_28 : decode jdk_33_method_22_code 28 = .ok (.invokespecial 199, 3) := by decide +kernel
theorem d3_31 : decode jdk_33_method_22_code 31 = .ok (.areturn, 1) := by decide +kernel
theorem d3_6 : decode jdk_33_method_22_code 6 = .ok (.iload_n 0, 1) := by decide +kernel
theorem d3_7 : decode jdk_33_method_22_code 7 = .ok (.getstatic 191, 3) := by decide +kernel
theorem d3_10 : decode jdk_33_method_22_code 10 = .ok (.if_icmp .gt 13, 3) := by decide +kernel
theorem d3_13 : decode jdk_33_method_22_code 13 = .ok (.getstatic 195, 3) := by decide +kernel
theorem d3_16 : decode jdk_33_method_22_code 16 = .ok (.iload_n 0, 1) := by decide +kernel
theorem d3_17 : decode jdk_33_method_22_code 17 = .ok (.sipush 128, 3) := by decide +kernel
theorem d3_20 : decode jdk_33_method_22_code 20 = .ok (.iadd, 1) := by decide +kernel
theorem d3_21 : decode jdk_33_method_22_code 21 = .ok (.aaload, 1) := by decide +kernel
theorem d3_22 : decode jdk_33_method_22_code 22 = .ok (.areturn, 1) := by decide +kernel
theorem ef_3 (m : MethodId) (x0 : Int32) : entryFrame m #[(.int x0)] 1 = mkF m 0 #[.val (.int x0)] [] := by first | (simp [entryFrame, mkF, argsToLocals, Value.category]; done) | rfl
def Q3 (Z : State) (p0 : Int32) (ca : Addr) (cc : Cell) (h0 : Heap) (n0 : Nat) (v : Option Value) (h : Heap) (L : List Loc) : Prop := ∃ x, v = some (.ref x) ∧ Fr n0 L ∧ Keep h0 h [] ∧ Exa Z h x "java/lang/Integer"
set_option maxRecDepth 65536 in
set_option maxHeartbeats 40000000 in
theorem rm3 (l : Launch) (Z : State) (a0 : Array Value) (hw : ∀ d ∈ tables_1, d.before a0 Z = true) (ws : List Jvm.Cond) (p0 : Int32) (ca : Addr) (cc : Cell) (h0 : Heap) (n0 : Nat) (Z0 : n0 ≤ h0.size) (O0 : Old Z n0 h0) (S_high : Sta Z Z.heap "java/lang/Integer$IntegerCache" "high" "I" (.int (127 : Int32))) (S_cache : Sta Z Z.heap "java/lang/Integer$IntegerCache" "cache" "[Ljava/lang/Integer;" (.ref ca)) (BX : Bxs Z ca cc "java/lang/Integer" "I" (256 : Int32) (fun j => .int (j - 128))) :
    MetFree l (⟨"java/lang/Integer", "valueOf", "(I)Ljava/lang/Integer;"⟩ : MethodName) (head1 (Jvm.Cond.code (⟨"java/lang/Integer", "valueOf", "(I)Ljava/lang/Integer;"⟩ : MethodName) jdk_33_method_22_code 1 (some (.object "java/lang/Integer")) :: ws) ({ frames := 3, cells := 1, slots := 1, locals := 38 } : Room)) (fun a U => a = #[(.int p0)] ∧ Z.Warmed39 U.vm ∧ U.heap = h0) (fun _ _ _ _ _ => True) (fun _ U o U' => ∃ v L, o = .returned v ∧ Q3 Z p0 ca cc h0 n0 v U'.heap L ∧ FrameEnd U o U' L ({ frames := 3, cells := 1, slots := 1, locals := 38 } : Room).cells ({ frames := 3, cells := 1, slots := 1, locals := 38 } : Room).slots) := by
  refine MetFree.of_bodySF (plainFor_of_name pn11) hisR ?_
  intro p e s m args below meth c s₁ Bd hml0 hP hK
  obtain ⟨rfl, hZ, hh⟩ := hP
  have hx := Bd.exec
  have hby := Bd.bytes
  have hml : c.maxLocals = 1 := hml0
  have hown : s.vm.findClass "java/lang/Integer" = some m.cls := findClass_of_methodNamed Bd.named
  have hnm := (name_of_methodNamed Bd.named Bd.method).1
  have X0 : Stand p l e ({ frames := 3, cells := 1, slots := 1, locals := 38 } : Room) s m #[(.int p0)] below meth c s₁ [] 0 0 := Stand.of_body Bd
  have e0 : s₁.heap = h0 := by rw [← hh, Bd.state]; rfl
  have N0 := Fr.nil n0
  have pre0 : ∀ t, Steps p.tables e below (s₁.setTop (mkF m 0 #[iv p0] [])) t → Steps p.tables e below (s₁.setTop (entryFrame m #[(.int p0)] 1)) t := fun t k => castTop (ef_3 m p0) k
  have pre1 : ∀ t, Steps p.tables e below (s₁.setTop (mkF m 3 #[iv p0] [(.int (-128 : Int32)), (.int p0)])) t → Steps p.tables e below (s₁.setTop (entryFrame m #[(.int p0)] 1)) t := by
    intro t kt
    refine pre0 _ ?_
    show Steps p.tables e below (s₁.setTop (mkF m 0 #[iv p0] [])) _
    refine XS.iloadN X0.here hx rfl (hb hby d3_0) rfl ?_
    refine XS.bipush X0.here hx rfl (hb hby d3_1) ?_
    exact kt
  by_cases hc3 : p0 < (-128 : Int32)
  · have pre2 : ∀ t, Steps p.tables e below (s₁.setTop (mkF m 23 #[iv p0] [])) t → Steps p.tables e below (s₁.setTop (entryFrame m #[(.int p0)] 1)) t := by
      intro t kt
      refine pre1 _ ?_
      show Steps p.tables e below (s₁.setTop (mkF m 3 #[iv p0] [(.int (-128 : Int32)), (.int p0)])) _
      refine XS.icmpYes X0.here hx rfl (pc0 := 3) (pc' := 23) rfl (hb hby d3_3) rfl (tlt hc3).1 (by decide) (by decide) ?_
      exact kt
    obtain ⟨T3, h3, X3, e3, E3, A3, D3, -, st3⟩ := newO X0 hx hZ hown (hw _ (List.mem_of_getElem? (i := 92) rfl)) (hw _ (List.mem_of_getElem? (i := 93) rfl)) (hw _ (List.mem_of_getElem? (i := 23) rfl)) e0 (g := (mkF m 23 #[iv p0] [])) rfl (hb hby d3_23) (by decide) (by decide)
    obtain ⟨b3, g3⟩ : ∃ z, z = h0.size := ⟨_, rfl⟩
    rw [← g3] at A3 D3 st3
    have g_b3 : n0 ≤ b3 := Nat.le_trans (Nat.le_trans Z0 (Keep.refl h0 []).1) (Nat.le_of_eq g3.symm)
    have sz_b3 : h0.size ≤ b3 := Nat.le_trans (Keep.refl h0 []).1 (Nat.le_of_eq g3.symm)
    have F_value_b3 : Fld Z h3 b3 "java/lang/Integer" "value" "I" (.int (0 : Int32)) := D3 (Or.inr (hw _ (List.mem_of_getElem? (i := 106) rfl))) (ty := .int) (by decide)
    have K3 : Keep h0 h3 [] := (Keep.refl h0 []).ext E3
    have pre4 : ∀ t, Steps p.tables e below (T3.setTop (mkF m 28 #[iv p0] [(.int p0), (.ref b3), (.ref b3)])) t → Steps p.tables e below (s₁.setTop (entryFrame m #[(.int p0)] 1)) t := by
      intro t kt
      refine pre2 _ ?_
      show Steps p.tables e below (s₁.setTop (mkF m 23 #[iv p0] [])) _
      refine st3 _ ?_
      show Steps p.tables e below (T3.setTop (mkF m 26 #[iv p0] [(.ref b3)])) _
      refine XS.dup X3.here hx rfl (hb hby d3_26) rfl rfl ?_
      refine XS.iloadN X3.here hx rfl (hb hby d3_27) rfl ?_
      exact kt
    obtain ⟨_, _, ⟨T5, L5, k5, n5⟩, -, X5, ⟨Lc5, hQ5, l5, y5, z5⟩, st5⟩ := X3.specialBack hx (y := (⟨"java/lang/Integer", "<init>", "(I)V"⟩ : MethodName)) rfl hown (mvT hZ (hw _ (List.mem_of_getElem? (i := 94) rfl))) (mvT hZ (hw _ (List.mem_of_getElem? (i := 95) rfl))) (mvT hZ (hw _ (List.mem_of_getElem? (i := 97) rfl))) (by decide) (backOf (W := 1) (rm14 l Z a0 hw [] b3 p0 h3 n0 (Nat.le_trans Z0 K3.1) F_value_b3 A3 g_b3) hZ (hw _ (List.mem_of_getElem? (i := 97) rfl)) (hw _ (List.mem_of_getElem? (i := 23) rfl)) (by decide) (by decide)) (g := (mkF m 28 #[iv p0] [(.int p0), (.ref b3), (.ref b3)])) rfl (by rw [hml]; rfl) (Steps.refl _) (a := b3) (argsL := [(.int p0)]) (rest := [(.ref b3)]) (lenOf pd12 rfl) rfl (by show 2 * 0 + _ ≤ _; exact Nat.le_of_eq rfl) (hb hby d3_28) (fun _ _ => ⟨rfl, e3, (by decide : 1 + 0 ≤ _), (by decide : 1 + 0 ≤ _)⟩)
    dsimp only [Pt.U, Pt.locs, Pt.cells, Pt.slots] at X5 l5 y5 z5 st5 hQ5
    subst l5 y5 z5
    obtain ⟨rfl, N5q, Kc5⟩ := hQ5
    have N5 := Fr.app N0 N5q
    have K5 : Keep h0 T5.heap [] := K3.trans Kc5 (allS (Or.inr sz_b3) all0)
    have pre6 : ∀ t, Steps p.tables e below (T5.setTop (mkF m 31 #[iv p0] [(.ref b3)])) t → Steps p.tables e below (s₁.setTop (entryFrame m #[(.int p0)] 1)) t := by
      intro t kt
      refine pre4 _ ?_
      show Steps p.tables e below (T3.setTop (mkF m 28 #[iv p0] [(.int p0), (.ref b3), (.ref b3)])) _
      refine st5.trans ?_
      exact kt
    obtain ⟨fs, hr, hrun, hended, hW, hsame⟩ := X5.leave (v := some (.ref b3)) (fun h => by rw [Bd.returns] at h; cases h)
    refine ⟨_, _, pre6 _ ?_, hrun, hended, _, _, rfl, ?_, ⟨_, rfl⟩, hW, hsame.mono (by decide) (by decide)⟩
    · show Steps p.tables e below (T5.setTop (mkF m 31 #[iv p0] [(.ref b3)])) _
      jvm_step X5.here [X5.here.top, hx, (hb hby d3_31), X5.method', Bd.returns, Value.isRef, FieldType.isReference]
      first | (intro acts; rw [hr _ acts rfl rfl rfl]) | rw [hr _ _ rfl rfl rfl]
      exact Steps.refl _
    · show Q3 Z p0 ca cc h0 n0 _ T5.heap _
      exact ⟨b3, rfl, N5, K5, (A3.keep Kc5)⟩
  · have pre7 : ∀ t, Steps p.tables e below (s₁.setTop (mkF m 7 #[iv p0] [(.int p0)])) t → Steps p.tables e below (s₁.setTop (entryFrame m #[(.int p0)] 1)) t := by
      intro t kt
      refine pre1 _ ?_
      show Steps p.tables e below (s₁.setTop (mkF m 3 #[iv p0] [(.int (-128 : Int32)), (.int p0)])) _
      refine XS.icmpNo X0.here hx rfl (hb hby d3_3) rfl (flt hc3).1 ?_
      refine XS.iloadN X0.here hx rfl (hb hby d3_6) rfl ?_
      exact kt
    obtain ⟨T8, X8, e8, st8⟩ := getS2 X0 hx hZ hown (host := "") (Or.inl (hw _ (List.mem_of_getElem? (i := 25) rfl))) Via.refl e0 (S_high.ext (O0.keep (Keep.refl h0 []) all0).2) (g := (mkF m 7 #[iv p0] [(.int p0)])) rfl (hb hby d3_7)
    have pre9 : ∀ t, Steps p.tables e below (T8.setTop (mkF m 10 #[iv p0] [(.int (127 : Int32)), (.int p0)])) t → Steps p.tables e below (s₁.setTop (entryFrame m #[(.int p0)] 1)) t := by
      intro t kt
      refine pre7 _ ?_
      show Steps p.tables e below (s₁.setTop (mkF m 7 #[iv p0] [(.int p0)])) _
      refine st8 _ ?_
      exact kt
    by_cases hc10 : (127 : Int32) < p0
    · have pre10 : ∀ t, Steps p.tables e below (T8.setTop (mkF m 23 #[iv p0] [])) t → Steps p.tables e below (s₁.setTop (entryFrame m #[(.int p0)] 1)) t := by
        intro t kt
        refine pre9 _ ?_
        show Steps p.tables e below (T8.setTop (mkF m 10 #[iv p0] [(.int (127 : Int32)), (.int p0)])) _
        refine XS.icmpYes X8.here hx rfl (pc0 := 10) (pc' := 23) rfl (hb hby d3_10) rfl (tlt hc10).2.2.1 (by decide) (by decide) ?_
        exact kt
      obtain ⟨T11, h11, X11, e11, E11, A11, D11, -, st11⟩ := newO X8 hx hZ hown (hw _ (List.mem_of_getElem? (i := 92) rfl)) (hw _ (List.mem_of_getElem? (i := 93) rfl)) (hw _ (List.mem_of_getElem? (i := 23) rfl)) e8 (g := (mkF m 23 #[iv p0] [])) rfl (hb hby d3_23) (by decide) (by decide)
      obtain ⟨b11, g11⟩ : ∃ z, z = h0.size := ⟨_, rfl⟩
      rw [← g11] at A11 D11 st11
      have g_b11 : n0 ≤ b11 := Nat.le_trans (Nat.le_trans Z0 (Keep.refl h0 []).1) (Nat.le_of_eq g11.symm)
      have sz_b11 : h0.size ≤ b11 := Nat.le_trans (Keep.refl h0 []).1 (Nat.le_of_eq g11.symm)
      have F_value_b11 : Fld Z h11 b11 "java/lang/Integer" "value" "I" (.int (0 : Int32)) := D11 (Or.inr (hw _ (List.mem_of_getElem? (i := 106) rfl))) (ty := .int) (by decide)
      have K11 : Keep h0 h11 [] := (Keep.refl h0 []).ext E11
      have pre12 : ∀ t, Steps p.tables e below (T11.setTop (mkF m 28 #[iv p0] [(.int p0), (.ref b11), (.ref b11)])) t → Steps p.tables e below (s₁.setTop (entryFrame m #[(.int p0)] 1)) t := by
        intro t kt
        refine pre10 _ ?_
        show Steps p.tables e below (T8.setTop (mkF m 23 #[iv p0] [])) _
        refine st11 _ ?_
        show Steps p.tables e below (T11.setTop (mkF m 26 #[iv p0] [(.ref b11)])) _
        refine XS.dup X11.here hx rfl (hb hby d3_26) rfl rfl ?_
        refine XS.iloadN X11.here hx rfl (hb hby d3_27) rfl ?_
        exact kt
      obtain ⟨_, _, ⟨T13, L13, k13, n13⟩, -, X13, ⟨Lc13, hQ13, l13, y13, z13⟩, st13⟩ := X11.specialBack hx (y := (⟨"java/lang/Integer", "<init>", "(I)V"⟩ : MethodName)) rfl hown (mvT hZ (hw _ (List.mem_of_getElem? (i := 94) rfl))) (mvT hZ (hw _ (List.mem_of_getElem? (i := 95) rfl))) (mvT hZ (hw _ (List.mem_of_getElem? (i := 97) rfl))) (by decide) (backOf (W := 1) (rm14 l Z a0 hw [] b11 p0 h11 n0 (Nat.le_trans Z0 K11.1) F_value_b11 A11 g_b11) hZ (hw _ (List.mem_of_getElem? (i := 97) rfl)) (hw _ (List.mem_of_getElem? (i := 23) rfl)) (by decide) (by decide)) (g := (mkF m 28 #[iv p0] [(.int p0), (.ref b11), (.ref b11)])) rfl (by rw [hml]; rfl) (Steps.refl _) (a := b11) (argsL := [(.int p0)]) (rest := [(.ref b11)]) (lenOf pd12 rfl) rfl (by show 2 * 0 + _ ≤ _; exact Nat.le_of_eq rfl) (hb hby d3_28) (fun _ _ => ⟨rfl, e11, (by decide : 1 + 0 ≤ _), (by decide : 1 + 0 ≤ _)⟩)
      dsimp only [Pt.U, Pt.locs, Pt.cells, Pt.slots] at X13 l13 y13 z13 st13 hQ13
      subst l13 y13 z13
      obtain ⟨rfl, N13q, Kc13⟩ := hQ13
      have N13 := Fr.app N0 N13q
      have K13 : Keep h0 T13.heap [] := K11.trans Kc13 (allS (Or.inr sz_b11) all0)
      have pre14 : ∀ t, Steps p.tables e below (T13.setTop (mkF m 31 #[iv p0] [(.ref b11)])) t → Steps p.tables e below (s₁.setTop (entryFrame m #[(.int p0)] 1)) t := by
        intro t kt
        refine pre12 _ ?_
        show Steps p.tables e below (T11.setTop (mkF m 28 #[iv p0] [(.int p0), (.ref b11), (.ref b11)])) _
        refine st13.trans ?_
        exact kt
      obtain ⟨fs, hr, hrun, hended, hW, hsame⟩ := X13.leave (v := some (.ref b11)) (fun h => by rw [Bd.returns] at h; cases h)
      refine ⟨_, _, pre14 _ ?_, hrun, hended, _, _, rfl, ?_, ⟨_, rfl⟩, hW, hsame.mono (by decide) (by decide)⟩
      · show Steps p.tables e below (T13.setTop (mkF m 31 #[iv p0] [(.ref b11)])) _
        jvm_step X13.here [X13.here.top, hx, (hb hby d3_31), X13.method', Bd.returns, Value.isRef, FieldType.isReference]
        first | (intro acts; rw [hr _ acts rfl rfl rfl]) | rw [hr _ _ rfl rfl rfl]
        exact Steps.refl _
      · show Q3 Z p0 ca cc h0 n0 _ T13.heap _
        exact ⟨b11, rfl, N13, K13, (A11.keep Kc13)⟩
    · have pre15 : ∀ t, Steps p.tables e below (T8.setTop (mkF m 13 #[iv p0] [])) t → Steps p.tables e below (s₁.setTop (entryFrame m #[(.int p0)] 1)) t := by
        intro t kt
        refine pre9 _ ?_
        show Steps p.tables e below (T8.setTop (mkF m 10 #[iv p0] [(.int (127 : Int32)), (.int p0)])) _
        refine XS.icmpNo X8.here hx rfl (hb hby d3_10) rfl (flt hc10).2.2.1 ?_
        exact kt
      obtain ⟨T16, X16, e16, st16⟩ := getS2 X8 hx hZ hown (host := "") (Or.inl (hw _ (List.mem_of_getElem? (i := 27) rfl))) Via.refl e8 (S_cache.ext (O0.keep (Keep.refl h0 []) all0).2) (g := (mkF m 13 #[iv p0] [])) rfl (hb hby d3_13)
      have pre17 : ∀ t, Steps p.tables e below (T16.setTop (mkF m 21 #[iv p0] [(.int (p0 + (128 : Int32))), (.ref ca)])) t → Steps p.tables e below (s₁.setTop (entryFrame m #[(.int p0)] 1)) t := by
        intro t kt
        refine pre15 _ ?_
        show Steps p.tables e below (T8.setTop (mkF m 13 #[iv p0] [])) _
        refine st16 _ ?_
        show Steps p.tables e below (T16.setTop (mkF m 16 #[iv p0] [(.ref ca)])) _
        refine XS.iloadN X16.here hx rfl (hb hby d3_16) rfl ?_
        refine XS.sipush X16.here hx rfl (hb hby d3_17) ?_
        refine XS.iadd X16.here hx rfl (hb hby d3_20) rfl ?_
        exact kt
      obtain ⟨xb, x1, x2, x3⟩ := BX.2.2.2 (p0 + (128 : Int32)) (own_cin p0 hc3 hc10 BX.2.1)
      have xE : Exa Z h0 xb "java/lang/Integer" := x2.ext (O0.keep (Keep.refl h0 []) all0).2
      have pre19 : ∀ t, Steps p.tables e below (T16.setTop (mkF m 22 #[iv p0] [(.ref xb)])) t → Steps p.tables e below (s₁.setTop (entryFrame m #[(.int p0)] 1)) t := by
        intro t kt
        refine pre17 _ ?_
        show Steps p.tables e below (T16.setTop (mkF m 21 #[iv p0] [(.int (p0 + (128 : Int32))), (.ref ca)])) _
        refine X16.aaload hx (j := (p0 + (128 : Int32))) (v := .ref xb) (by rw [e16]; exact (BX.1.ext (O0.keep (Keep.refl h0 []) all0).2).1) (State.isArrayOf_alike hZ.alike BX.1.2.1) rfl BX.1.2.2 (own_cin p0 hc3 hc10 BX.2.1) x1 (g := (mkF m 21 #[iv p0] [(.int (p0 + (128 : Int32))), (.ref ca)])) rfl rfl (hb hby d3_21) _ ?_
        exact kt
      obtain ⟨fs, hr, hrun, hended, hW, hsame⟩ := X16.leave (v := some (.ref xb)) (fun h => by rw [Bd.returns] at h; cases h)
      refine ⟨_, _, pre19 _ ?_, hrun, hended, _, _, rfl, ?_, ⟨_, rfl⟩, hW, hsame.mono (by decide) (by decide)⟩
      · show Steps p.tables e below (T16.setTop (mkF m 22 #[iv p0] [(.ref xb)])) _
        jvm_step X16.here [X16.here.top, hx, (hb hby d3_22), X16.method', Bd.returns, Value.isRef, FieldType.isReference]
        first | (intro acts; rw [hr _ acts rfl rfl rfl]) | rw [hr _ _ rfl rfl rfl]
        exact Steps.refl _
      · show Q3 Z p0 ca cc h0 n0 _ T16.heap _
        rw [e16]
        exact ⟨xb, rfl, N0, Keep.refl _ _, xE⟩
theorem own_idx (p : Int32) (cap : Int) (h : 0 ≤ p.toInt ∧ p.toInt < cap) (hc : cap ≤ 64) : ((p.toUInt32 >>> ((10 : Int32) &&& 31).toUInt32).toInt32) = (0 : Int32) ∧ (p &&& (1023 : Int32)) = p ∧ ((2 : Int32) * p).toInt = 2 * p.toInt ∧ (((2 : Int32) * p) + (1 : Int32)).toInt = 2 * p.toInt + 1 := by
  have z0 : (0 : Int32).toInt = 0 := by decide
  have z1 : (1 : Int32).toInt = 1 := by decide
  have z2 : (2 : Int32).toInt = 2 := by decide
  have u := c_iushr p 10 10 (by decide) (by decide)
  have m := c_mask p 1023 10 (by decide) (by decide)
  have k1 := c_imul 2 p
  have k2 := c_iadd ((2 : Int32) * p) 1
  have r1 := rng32 ((2 : Int32) * p); have r2 := rng32 (((2 : Int32) * p) + 1)
  rw [z2] at k1; rw [z1] at k2
  have e : ((2 : Int32) * p).toInt = 2 * p.toInt := by omega
  refine ⟨Int32.toInt_inj.mp ?_, Int32.toInt_inj.mp ?_, e, by omega⟩
  · rw [u, z0]
    have : ((2 ^ 10 : Nat) : Int) = 1024 := by decide
    rw [this]; omega
  · rw [m]
    have : ((2 ^ 10 : Nat) : Int) = 1024 := by decide
    rw [this]; omega
theorem own_inb {c : Cell} {j z : Int32} {k n : Int} (S : c.slots.size = z.toNatClampNeg) (hz : z.toInt = n) (hj : j.toInt = k) (h : 0 ≤ k ∧ k < n) : ¬ (j < 0 ∨ c.slots.size ≤ j.toNatClampNeg) := by
  have z0 : (0 : Int32).toInt = 0 := by decide
  refine inb_of S ⟨?_, ?_⟩ <;> rw [Int32.lt_iff_toInt_lt] <;> omega
theorem d16_0 : decode prog_42_method_11_code 0 = .ok (.iload_n 1, 1) := by decide +kernel
theorem d16_1 : decode prog_42_method_11_code 1 = .ok (.getstatic 48, 3) := by decide +kernel
theorem d16_4 : decode prog_42_method_11_code 4 = .ok (.iushr, 1) := by decide +kernel
theorem d16_5 : decode prog_42_method_11_code 5 = .ok (.istore 9, 2) := by decide +kernel
theorem d16_7 : decode prog_42_method_11_code 7 = .ok (.iload_n 1, 1) := by decide +kernel
theorem d16_8 : decode prog_42_method_11_code 8 = .ok (.sipush 1023, 3) := by decide +kernel
theorem d16_11 : decode prog_42_method_11_code 11 = .ok (.iand, 1) := by decide +kernel
theorem d16_12 : decode prog_42_method_11_code 12 = .ok (.istore 10, 2) := by decide +kernel
theorem d16_14 : decode prog_42_method_11_code 14 = .ok (.aload_n 0, 1) := by decide +kernel
theorem d16_15 : decode prog_42_method_11_code 15 = .ok (.getfield 11, 3) := by decide +kernel
theorem d16_18 : decode prog_42_method_11_code 18 = .ok (.iload 9, 2) := by decide +kernel
theorem d16_20 : decode prog_42_method_11_code 20 = .ok (.aaload, 1) := by decide +kernel
theorem d16_21 : decode prog_42_method_11_code 21 = .ok (.astore 11, 2) := by decide +kernel
theorem d16_23 : decode prog_42_method_11_code 23 = .ok (.aload 11, 2) := by decide +kernel
theorem d16_25 : decode prog_42_method_11_code 25 = .ok (.iconst 2, 1) := by decide +kernel
theorem d16_26 : decode prog_42_method_11_code 26 = .ok (.iload 10, 2) := by decide +kernel
theorem d16_28 : decode prog_42_method_11_code 28 = .ok (.imul, 1) := by decide +kernel
theorem d16_29 : decode prog_42_method_11_code 29 = .ok (.aload_n 2, 1) := by decide +kernel
theorem d16_30 : decode prog_42_method_11_code 30 = .ok (.aastore, 1) := by decide +kernel
theorem d16_31 : decode prog_42_method_11_code 31 = .ok (.aload 11, 2) := by decide +kernel
theorem d16_33 : decode prog_42_method_11_code 33 = .ok (.iconst 2, 1) := by decide +kernel
theorem d16_34 : decode prog_42_method_11_code 34 = .ok (.iload 10, 2) := by decide +kernel
theorem d16_36 : decode prog_42_method_11_code 36 = .ok (.imul, 1) := by decide +kernel
theorem d16_37 : decode prog_42_method_11_code 37 = .ok (.iconst 1, 1) := by decide +kernel
theorem d16_38 : decode prog_42_method_11_code 38 = .ok (.iadd, 1) := by decide +kernel
theorem d16_39 : decode prog_42_method_11_code 39 = .ok (.aload_n 3, 1) := by decide +kernel
theorem d16_40 : decode prog_42_method_11_code 40 = .ok (.aastore, 1) := by decide +kernel
theorem d16_41 : decode prog_42_method_11_code 41 = .ok (.aload_n 0, 1) := by decide +kernel
theorem d16_42 : decode prog_42_method_11_code 42 = .ok (.getfield 17, 3) := by decide +kernel
theorem d16_45 : decode prog_42_method_11_code 45 = .ok (.iload 9, 2) := by decide +kernel
theorem d16_47 : decode prog_42_method_11_code 47 = .ok (.aaload, 1) := by decide +kernel
theorem d16_48 : decode prog_42_method_11_code 48 = .ok (.astore 12, 2) := by decide +kernel
theorem d16_50 : decode prog_42_method_11_code 50 = .ok (.aload 12, 2) := by decide +kernel
theorem d16_52 : decode prog_42_method_11_code 52 = .ok (.iconst 2, 1) := by decide +kernel
theorem d16_53 : decode prog_42_method_11_code 53 = .ok (.iload 10, 2) := by decide +kernel
theorem d16_55 : decode prog_42_method_11_code 55 = .ok (.imul, 1) := by decide +kernel
theorem d16_56 : decode prog_42_method_11_code 56 = .ok (.lload 4, 2) := by decide +kernel
theorem d16_58 : decode prog_42_method_11_code 58 = .ok (.lastore, 1) := by decide +kernel
theorem d16_59 : decode prog_42_method_11_code 59 = .ok (.aload 12, 2) := by decide +kernel
theorem d16_61 : decode prog_42_method_11_code 61 = .ok (.iconst 2, 1) := by decide +kernel
theorem d16_62 : decode prog_42_method_11_code 62 = .ok (.iload 10, 2) := by decide +kernel
theorem d16_64 : decode prog_42_method_11_code 64 = .ok (.imul, 1) := by decide +kernel
theorem d16_65 : decode prog_42_method_11_code 65 = .ok (.iconst 1, 1) := by decide +kernel
theorem d16_66 : decode prog_42_method_11_code 66 = .ok (.iadd, 1) := by decide +kernel
theorem d16_67 : decode prog_42_method_11_code 67 = .ok (.lload 6, 2) := by decide +kernel
theorem d16_69 : decode prog_42_method_11_code 69 = .ok (.lastore, 1) := by decide +kernel
theorem d16_70 : decode prog_42_method_11_code 70 = .ok (.aload_n 0, 1) := by decide +kernel
theorem d16_71 : decode prog_42_method_11_code 71 = .ok (.getfield 23, 3) := by decide +kernel
theorem d16_74 : decode prog_42_method_11_code 74 = .ok (.iload 9, 2) := by decide +kernel
theorem d16_76 : decode prog_42_method_11_code 76 = .ok (.aaload, 1) := by decide +kernel
theorem d16_77 : decode prog_42_method_11_code 77 = .ok (.iload 10, 2) := by decide +kernel
theorem d16_79 : decode prog_42_method_11_code 79 = .ok (.iload 8, 2) := by decide +kernel
theorem d16_81 : decode prog_42_method_11_code 81 = .ok (.bastore, 1) := by decide +kernel
theorem d16_82 : decode prog_42_method_11_code 82 = .ok (.return_, 1) := by decide +kernel
theorem ef_16c16 (m : MethodId) (x0 : Addr) (x1 : Int32) (x2 : Addr) (x4 : Int64) (x5 : Int64) (x6 : Int32) : entryFrame m #[(.ref x0), (.int x1), (.ref x2), .null, (.long x4), (.long x5), (.int x6)] 13 = mkF m 0 #[.val (.ref x0), .val (.int x1), .val (.ref x2), .val .null, .val (.long x4), .second, .val (.long x5), .second, .val (.int x6), .unset, .unset, .unset, .unset] [] := by first | (simp [entryFrame, mkF, argsToLocals, Value.category]; done) | rfl
def Q16c16 (Z : State) (r0 : Addr) (p1 : Int32) (r2 : Addr) (q4 : Int64) (I1 : Addr) (T1 : Addr) (F1 : Addr) (i2 : Addr) (t2 : Addr) (f2 : Addr) (kI : ClassId) (kT : ClassId) (kF : ClassId) (ki : ClassId) (kt : ClassId) (kf : ClassId) (h0 : Heap) (n0 : Nat) (v : Option Value) (h : Heap) (L : List Loc) : Prop := v = none ∧ Fr n0 L ∧ Keep h0 h [i2, t2, f2] ∧ Arh Z h i2 ki (.object "java/lang/Object") (32 : Int32) [((((2 : Int32) * p1) + (1 : Int32)), .null), (((2 : Int32) * p1), (.ref r2))] [] .null ∧ Arh Z h t2 kt .long (32 : Int32) [((((2 : Int32) * p1) + (1 : Int32)), (.long (0 : Int64))), (((2 : Int32) * p1), (.long q4))] [] (.long (0 : Int64))
set_option maxRecDepth 65536 in
set_option maxHeartbeats 40000000 in
theorem rm16c16 (l : Launch) (Z : State) (a0 : Array Value) (hw : ∀ d ∈ tables_1, d.before a0 Z = true) (ws : List Jvm.Cond) (r0 : Addr) (p1 : Int32) (r2 : Addr) (q4 : Int64) (I1 : Addr) (T1 : Addr) (F1 : Addr) (i2 : Addr) (t2 : Addr) (f2 : Addr) (kI : ClassId) (kT : ClassId) (kF : ClassId) (ki : ClassId) (kt : ClassId) (kf : ClassId) (h0 : Heap) (n0 : Nat) (Z0 : n0 ≤ h0.size) (SL : own_Sl Z h0 r0 I1 T1 F1 i2 t2 f2 kI kT kF ki kt kf (16 : Int32) (32 : Int32)) (E_r0 : Exa Z h0 r0 "com/example/loopsmith/loopsmith/queue/Slots") (g_r0 : n0 ≤ r0) (g_I1 : n0 ≤ I1) (g_T1 : n0 ≤ T1) (g_F1 : n0 ≤ F1) (g_i2 : n0 ≤ i2) (g_t2 : n0 ≤ t2) (g_f2 : n0 ≤ f2) (E_r2 : Exa Z h0 r2 "java/lang/Integer") (O0 : Old Z n0 h0) (S_bb : Sta Z Z.heap "com/example/loopsmith/loopsmith/queue/Slots" "BLOCK_BITS" "I" (.int (10 : Int32))) (hp : 0 ≤ p1.toInt ∧ p1.toInt < 16) :
    MetFree l (⟨"com/example/loopsmith/loopsmith/queue/Slots", "set", "(ILjava/lang/Object;Lcom/example/loopsmith/loopsmith/queue/Message$Target;JJB)V"⟩ : MethodName) (head1 (Jvm.Cond.code (⟨"com/example/loopsmith/loopsmith/queue/Slots", "set", "(ILjava/lang/Object;Lcom/example/loopsmith/loopsmith/queue/Message$Target;JJB)V"⟩ : MethodName) prog_42_method_11_code 13 none :: ws) ({ frames := 0, cells := 0, slots := 0, locals := 0 } : Room)) (fun a U => a = #[(.ref r0), (.int p1), (.ref r2), .null, (.long q4), (.long (0 : Int64)), (.int (0 : Int32))] ∧ Z.Warmed39 U.vm ∧ U.heap = h0) (fun _ _ _ _ _ => True) (fun _ U o U' => ∃ v L, o = .returned v ∧ Q16c16 Z r0 p1 r2 q4 I1 T1 F1 i2 t2 f2 kI kT kF ki kt kf h0 n0 v U'.heap L ∧ FrameEnd U o U' L ({ frames := 0, cells := 0, slots := 0, locals := 0 } : Room).cells ({ frames := 0, cells := 0, slots := 0, locals := 0 } : Room).slots) := by
  refine MetFree.of_bodySF (plainFor_of_name pn4) hisR ?_
  intro p e s m args below meth c s₁ Bd hml0 hP hK
  obtain ⟨rfl, hZ, hh⟩ := hP
  have hx := Bd.exec
  have hby := Bd.bytes
  have hml : c.maxLocals = 13 := hml0
  have hown : s.vm.findClass "com/example/loopsmith/loopsmith/queue/Slots" = some m.cls := findClass_of_methodNamed Bd.named
  have hnm := (name_of_methodNamed Bd.named Bd.method).1
  have X0 : Stand p l e ({ frames := 0, cells := 0, slots := 0, locals := 0 } : Room) s m #[(.ref r0), (.int p1), (.ref r2), .null, (.long q4), (.long (0 : Int64)), (.int (0 : Int32))] below meth c s₁ [] 0 0 := Stand.of_body Bd
  have e0 : s₁.heap = h0 := by rw [← hh, Bd.state]; rfl
  have N0 := Fr.nil n0
  have pre0 : ∀ t, Steps p.tables e below (s₁.setTop (mkF m 0 #[rv r0, iv p1, rv r2, .val .null, .val (.long q4), .second, .val (.long (0 : Int64)), .second, iv (0 : Int32), .unset, .unset, .unset, .unset] [])) t → Steps p.tables e below (s₁.setTop (entryFrame m #[(.ref r0), (.int p1), (.ref r2), .null, (.long q4), (.long (0 : Int64)), (.int (0 : Int32))] 13)) t := fun t k => castTop (ef_16c16 m r0 p1 r2 q4 (0 : Int64) (0 : Int32)) k
  obtain ⟨Sit0, Sti0, Sfl0, ⟨wb0, Sbl0⟩, Sca0, SeI10, SeT10, SeF10, Sei20, Set20, Sef20, SvI10, SvT10, SvF10, Svi20, Svt20, Svf20, SoI10, SoT10, SoF10, Soi20⟩ := id SL
  have pre1 : ∀ t, Steps p.tables e below (s₁.setTop (mkF m 1 #[rv r0, iv p1, rv r2, .val .null, .val (.long q4), .second, .val (.long (0 : Int64)), .second, iv (0 : Int32), .unset, .unset, .unset, .unset] [(.int p1)])) t → Steps p.tables e below (s₁.setTop (entryFrame m #[(.ref r0), (.int p1), (.ref r2), .null, (.long q4), (.long (0 : Int64)), (.int (0 : Int32))] 13)) t := by
    intro t kt
    refine pre0 _ ?_
    show Steps p.tables e below (s₁.setTop (mkF m 0 #[rv r0, iv p1, rv r2, .val .null, .val (.long q4), .second, .val (.long (0 : Int64)), .second, iv (0 : Int32), .unset, .unset, .unset, .unset] [])) _
    refine XS.iloadN X0.here hx rfl (hb hby d16_0) rfl ?_
    exact kt
  obtain ⟨T2, X2, e2, st2⟩ := getS2 X0 hx hZ hown (host := "") (Or.inl (hw _ (List.mem_of_getElem? (i := 113) rfl))) Via.refl e0 (S_bb.ext (O0.keep (Keep.refl h0 [i2, t2, f2]) (allS g_i2 (allS g_t2 (allS g_f2 all0)))).2) (g := (mkF m 1 #[rv r0, iv p1, rv r2, .val .null, .val (.long q4), .second, .val (.long (0 : Int64)), .second, iv (0 : Int32), .unset, .unset, .unset, .unset] [(.int p1)])) rfl (hb hby d16_1)
  have pre3 : ∀ t, Steps p.tables e below (T2.setTop (mkF m 15 #[rv r0, iv p1, rv r2, .val .null, .val (.long q4), .second, .val (.long (0 : Int64)), .second, iv (0 : Int32), iv (0 : Int32), iv p1, .unset, .unset] [(.ref r0)])) t → Steps p.tables e below (s₁.setTop (entryFrame m #[(.ref r0), (.int p1), (.ref r2), .null, (.long q4), (.long (0 : Int64)), (.int (0 : Int32))] 13)) t := by
    intro t kt
    refine pre1 _ ?_
    show Steps p.tables e below (s₁.setTop (mkF m 1 #[rv r0, iv p1, rv r2, .val .null, .val (.long q4), .second, .val (.long (0 : Int64)), .second, iv (0 : Int32), .unset, .unset, .unset, .unset] [(.int p1)])) _
    refine st2 _ ?_
    show Steps p.tables e below (T2.setTop (mkF m 4 #[rv r0, iv p1, rv r2, .val .null, .val (.long q4), .second, .val (.long (0 : Int64)), .second, iv (0 : Int32), .unset, .unset, .unset, .unset] [(.int (10 : Int32)), (.int p1)])) _
    refine XS.iushr X2.here hx rfl (hb hby d16_4) rfl ?_
    show Steps p.tables e below (T2.setTop (mkF m 5 #[rv r0, iv p1, rv r2, .val .null, .val (.long q4), .second, .val (.long (0 : Int64)), .second, iv (0 : Int32), .unset, .unset, .unset, .unset] [(.int ((p1.toUInt32 >>> ((10 : Int32) &&& 31).toUInt32).toInt32))])) _
    rw [show ((p1.toUInt32 >>> ((10 : Int32) &&& 31).toUInt32).toInt32) = (0 : Int32) from (own_idx p1 16 hp (by decide)).1]
    show Steps p.tables e below (T2.setTop (mkF m 5 #[rv r0, iv p1, rv r2, .val .null, .val (.long q4), .second, .val (.long (0 : Int64)), .second, iv (0 : Int32), .unset, .unset, .unset, .unset] [(.int (0 : Int32))])) _
    refine XS.istore X2.here hx rfl (hb hby d16_5) rfl (l' := #[rv r0, iv p1, rv r2, .val .null, .val (.long q4), .second, .val (.long (0 : Int64)), .second, iv (0 : Int32), iv (0 : Int32), .unset, .unset, .unset]) rfl ?_
    refine XS.iloadN X2.here hx rfl (hb hby d16_7) rfl ?_
    refine XS.sipush X2.here hx rfl (hb hby d16_8) ?_
    refine XS.iand X2.here hx rfl (hb hby d16_11) rfl ?_
    show Steps p.tables e below (T2.setTop (mkF m 12 #[rv r0, iv p1, rv r2, .val .null, .val (.long q4), .second, .val (.long (0 : Int64)), .second, iv (0 : Int32), iv (0 : Int32), .unset, .unset, .unset] [(.int (p1 &&& (1023 : Int32)))])) _
    rw [show (p1 &&& (1023 : Int32)) = p1 from (own_idx p1 16 hp (by decide)).2.1]
    show Steps p.tables e below (T2.setTop (mkF m 12 #[rv r0, iv p1, rv r2, .val .null, .val (.long q4), .second, .val (.long (0 : Int64)), .second, iv (0 : Int32), iv (0 : Int32), .unset, .unset, .unset] [(.int p1)])) _
    refine XS.istore X2.here hx rfl (hb hby d16_12) rfl (l' := #[rv r0, iv p1, rv r2, .val .null, .val (.long q4), .second, .val (.long (0 : Int64)), .second, iv (0 : Int32), iv (0 : Int32), iv p1, .unset, .unset]) rfl ?_
    refine XS.aloadN X2.here hx rfl (hb hby d16_14) rfl rfl ?_
    exact kt
  obtain ⟨T4, X4, e4, st4⟩ := getF X2 hx hZ hown (host := "") (Or.inl (hw _ (List.mem_of_getElem? (i := 11) rfl))) Via.refl e2 Sit0 (g := (mkF m 15 #[rv r0, iv p1, rv r2, .val .null, .val (.long q4), .second, .val (.long (0 : Int64)), .second, iv (0 : Int32), iv (0 : Int32), iv p1, .unset, .unset] [(.ref r0)])) rfl rfl (hb hby d16_15)
  obtain ⟨cl5, Ar5, q5, S5, M5, H5, G5⟩ := id SvI10
  have hin5 : ¬ ((0 : Int32) < 0 ∨ cl5.slots.size ≤ ((0 : Int32)).toNatClampNeg) := inb_of S5 ⟨by decide, by decide⟩
  have hat5 : cl5.slots[((0 : Int32)).toNatClampNeg]? = some (.ref i2) := H5.at hin5 rfl
  have pre6 : ∀ t, Steps p.tables e below (T4.setTop (mkF m 30 #[rv r0, iv p1, rv r2, .val .null, .val (.long q4), .second, .val (.long (0 : Int64)), .second, iv (0 : Int32), iv (0 : Int32), iv p1, rv i2, .unset] [(.ref r2), (.int ((2 : Int32) * p1)), (.ref i2)])) t → Steps p.tables e below (s₁.setTop (entryFrame m #[(.ref r0), (.int p1), (.ref r2), .null, (.long q4), (.long (0 : Int64)), (.int (0 : Int32))] 13)) t := by
    intro t kt
    refine pre3 _ ?_
    show Steps p.tables e below (T2.setTop (mkF m 15 #[rv r0, iv p1, rv r2, .val .null, .val (.long q4), .second, .val (.long (0 : Int64)), .second, iv (0 : Int32), iv (0 : Int32), iv p1, .unset, .unset] [(.ref r0)])) _
    refine st4 _ ?_
    show Steps p.tables e below (T4.setTop (mkF m 18 #[rv r0, iv p1, rv r2, .val .null, .val (.long q4), .second, .val (.long (0 : Int64)), .second, iv (0 : Int32), iv (0 : Int32), iv p1, .unset, .unset] [(.ref I1)])) _
    refine XS.iload X4.here hx rfl (hb hby d16_18) rfl ?_
    refine X4.aaload hx (j := (0 : Int32)) (v := (.ref i2)) (by rw [e4]; exact Ar5.1) (State.isArrayOf_alike hZ.alike Ar5.2.1) rfl Ar5.2.2 hin5 hat5 (g := (mkF m 20 #[rv r0, iv p1, rv r2, .val .null, .val (.long q4), .second, .val (.long (0 : Int64)), .second, iv (0 : Int32), iv (0 : Int32), iv p1, .unset, .unset] [(.int (0 : Int32)), (.ref I1)])) rfl rfl (hb hby d16_20) _ ?_
    show Steps p.tables e below (T4.setTop (mkF m 21 #[rv r0, iv p1, rv r2, .val .null, .val (.long q4), .second, .val (.long (0 : Int64)), .second, iv (0 : Int32), iv (0 : Int32), iv p1, .unset, .unset] [(.ref i2)])) _
    refine XS.astore X4.here hx rfl (hb hby d16_21) rfl rfl (l' := #[rv r0, iv p1, rv r2, .val .null, .val (.long q4), .second, .val (.long (0 : Int64)), .second, iv (0 : Int32), iv (0 : Int32), iv p1, rv i2, .unset]) rfl ?_
    refine XS.aload X4.here hx rfl (hb hby d16_23) rfl rfl ?_
    refine XS.iconst X4.here hx rfl (hb hby d16_25) ?_
    refine XS.iload X4.here hx rfl (hb hby d16_26) rfl ?_
    refine XS.imul X4.here hx rfl (hb hby d16_28) rfl ?_
    refine XS.aloadN X4.here hx rfl (hb hby d16_29) rfl rfl ?_
    exact kt
  obtain ⟨cl7, Ar7, q7, S7, M7, H7, G7⟩ := id Svi20
  have hin7 : ¬ (((2 : Int32) * p1) < 0 ∨ cl7.slots.size ≤ (((2 : Int32) * p1)).toNatClampNeg) := own_inb S7 (n := 32) (by decide) (own_idx p1 16 hp (by decide)).2.2.1 ⟨by omega, by omega⟩
  obtain ⟨T7, h7, X7, e7, W7, st7⟩ := stR X4 hx hZ e4 Ar7 (j := ((2 : Int32) * p1)) hin7 rfl (Sto.ofV Ar7 q7 Soi20 (Ins.of_exa E_r2 (hw _ (List.mem_of_getElem? (i := 115) rfl)))) (g := (mkF m 30 #[rv r0, iv p1, rv r2, .val .null, .val (.long q4), .second, .val (.long (0 : Int64)), .second, iv (0 : Int32), iv (0 : Int32), iv p1, rv i2, .unset] [(.ref r2), (.int ((2 : Int32) * p1)), (.ref i2)])) rfl rfl (hb hby d16_30)
  have V7 : Arh Z h7 i2 ki (.object "java/lang/Object") (32 : Int32) [(((2 : Int32) * p1), (.ref r2))] [] .null := Arh.push Ar7 q7 S7 M7 H7 G7 rfl W7 hin7
  have K7 : Keep h0 h7 [i2, t2, f2] := (Keep.refl h0 [i2, t2, f2]).wr W7 (Or.inl (List.mem_of_getElem? (i := 0) rfl))
  have N7 := Fr.snoc X7 N0 g_i2
  have pre8 : ∀ t, Steps p.tables e below (T7.setTop (mkF m 40 #[rv r0, iv p1, rv r2, .val .null, .val (.long q4), .second, .val (.long (0 : Int64)), .second, iv (0 : Int32), iv (0 : Int32), iv p1, rv i2, .unset] [.null, (.int (((2 : Int32) * p1) + (1 : Int32))), (.ref i2)])) t → Steps p.tables e below (s₁.setTop (entryFrame m #[(.ref r0), (.int p1), (.ref r2), .null, (.long q4), (.long (0 : Int64)), (.int (0 : Int32))] 13)) t := by
    intro t kt
    refine pre6 _ ?_
    show Steps p.tables e below (T4.setTop (mkF m 30 #[rv r0, iv p1, rv r2, .val .null, .val (.long q4), .second, .val (.long (0 : Int64)), .second, iv (0 : Int32), iv (0 : Int32), iv p1, rv i2, .unset] [(.ref r2), (.int ((2 : Int32) * p1)), (.ref i2)])) _
    refine st7 _ ?_
    show Steps p.tables e below (T7.setTop (mkF m 31 #[rv r0, iv p1, rv r2, .val .null, .val (.long q4), .second, .val (.long (0 : Int64)), .second, iv (0 : Int32), iv (0 : Int32), iv p1, rv i2, .unset] [])) _
    refine XS.aload X7.here hx rfl (hb hby d16_31) rfl rfl ?_
    refine XS.iconst X7.here hx rfl (hb hby d16_33) ?_
    refine XS.iload X7.here hx rfl (hb hby d16_34) rfl ?_
    refine XS.imul X7.here hx rfl (hb hby d16_36) rfl ?_
    refine XS.iconst X7.here hx rfl (hb hby d16_37) ?_
    refine XS.iadd X7.here hx rfl (hb hby d16_38) rfl ?_
    show Steps p.tables e below (T7.setTop (mkF m 39 #[rv r0, iv p1, rv r2, .val .null, .val (.long q4), .second, .val (.long (0 : Int64)), .second, iv (0 : Int32), iv (0 : Int32), iv p1, rv i2, .unset] [(.int (((2 : Int32) * p1) + (1 : Int32))), (.ref i2)])) _
    refine XS.aloadN X7.here hx rfl (hb hby d16_39) rfl rfl ?_
    exact kt
  obtain ⟨cl9, Ar9, q9, S9, M9, H9, G9⟩ := id V7
  have hin9 : ¬ ((((2 : Int32) * p1) + (1 : Int32)) < 0 ∨ cl9.slots.size ≤ ((((2 : Int32) * p1) + (1 : Int32))).toNatClampNeg) := own_inb S9 (n := 32) (by decide) (own_idx p1 16 hp (by decide)).2.2.2 ⟨by omega, by omega⟩
  obtain ⟨T9, h9, X9, e9, W9, st9⟩ := stR X7 hx hZ e7 Ar9 (j := (((2 : Int32) * p1) + (1 : Int32))) hin9 rfl (Or.inl rfl) (g := (mkF m 40 #[rv r0, iv p1, rv r2, .val .null, .val (.long q4), .second, .val (.long (0 : Int64)), .second, iv (0 : Int32), iv (0 : Int32), iv p1, rv i2, .unset] [.null, (.int (((2 : Int32) * p1) + (1 : Int32))), (.ref i2)])) rfl rfl (hb hby d16_40)
  have V9 : Arh Z h9 i2 ki (.object "java/lang/Object") (32 : Int32) [((((2 : Int32) * p1) + (1 : Int32)), .null), (((2 : Int32) * p1), (.ref r2))] [] .null := Arh.push Ar9 q9 S9 M9 H9 G9 rfl W9 hin9
  have K9 : Keep h0 h9 [i2, t2, f2] := K7.wr W9 (Or.inl (List.mem_of_getElem? (i := 0) rfl))
  have N9 := Fr.snoc X9 N7 g_i2
  have pre10 : ∀ t, Steps p.tables e below (T9.setTop (mkF m 42 #[rv r0, iv p1, rv r2, .val .null, .val (.long q4), .second, .val (.long (0 : Int64)), .second, iv (0 : Int32), iv (0 : Int32), iv p1, rv i2, .unset] [(.ref r0)])) t → Steps p.tables e below (s₁.setTop (entryFrame m #[(.ref r0), (.int p1), (.ref r2), .null, (.long q4), (.long (0 : Int64)), (.int (0 : Int32))] 13)) t := by
    intro t kt
    refine pre8 _ ?_
    show Steps p.tables e below (T7.setTop (mkF m 40 #[rv r0, iv p1, rv r2, .val .null, .val (.long q4), .second, .val (.long (0 : Int64)), .second, iv (0 : Int32), iv (0 : Int32), iv p1, rv i2, .unset] [.null, (.int (((2 : Int32) * p1) + (1 : Int32))), (.ref i2)])) _
    refine st9 _ ?_
    show Steps p.tables e below (T9.setTop (mkF m 41 #[rv r0, iv p1, rv r2, .val .null, .val (.long q4), .second, .val (.long (0 : Int64)), .second, iv (0 : Int32), iv (0 : Int32), iv p1, rv i2, .unset] [])) _
    refine XS.aloadN X9.here hx rfl (hb hby d16_41) rfl rfl ?_
    exact kt
  obtain ⟨T11, X11, e11, st11⟩ := getF X9 hx hZ hown (host := "") (Or.inl (hw _ (List.mem_of_getElem? (i := 15) rfl))) Via.refl e9 ((Sti0.other W7 (Or.inl (Exa.ne ((E_r0.wr W7).wr W9) ((Sei20.wr W7).wr W9) (by decide)))).other W9 (Or.inl (Exa.ne ((E_r0.wr W7).wr W9) ((Sei20.wr W7).wr W9) (by decide)))) (g := (mkF m 42 #[rv r0, iv p1, rv r2, .val .null, .val (.long q4), .second, .val (.long (0 : Int64)), .second, iv (0 : Int32), iv (0 : Int32), iv p1, rv i2, .unset] [(.ref r0)])) rfl rfl (hb hby d16_42)
  obtain ⟨cl12, Ar12, q12, S12, M12, H12, G12⟩ := id ((SvT10.other W7 (Exa.ne ((SeT10.wr W7).wr W9) ((Sei20.wr W7).wr W9) (by decide))).other W9 (Exa.ne ((SeT10.wr W7).wr W9) ((Sei20.wr W7).wr W9) (by decide)))
  have hin12 : ¬ ((0 : Int32) < 0 ∨ cl12.slots.size ≤ ((0 : Int32)).toNatClampNeg) := inb_of S12 ⟨by decide, by decide⟩
  have hat12 : cl12.slots[((0 : Int32)).toNatClampNeg]? = some (.ref t2) := H12.at hin12 rfl
  have pre13 : ∀ t, Steps p.tables e below (T11.setTop (mkF m 58 #[rv r0, iv p1, rv r2, .val .null, .val (.long q4), .second, .val (.long (0 : Int64)), .second, iv (0 : Int32), iv (0 : Int32), iv p1, rv i2, rv t2] [(.long q4), (.int ((2 : Int32) * p1)), (.ref t2)])) t → Steps p.tables e below (s₁.setTop (entryFrame m #[(.ref r0), (.int p1), (.ref r2), .null, (.long q4), (.long (0 : Int64)), (.int (0 : Int32))] 13)) t := by
    intro t kt
    refine pre10 _ ?_
    show Steps p.tables e below (T9.setTop (mkF m 42 #[rv r0, iv p1, rv r2, .val .null, .val (.long q4), .second, .val (.long (0 : Int64)), .second, iv (0 : Int32), iv (0 : Int32), iv p1, rv i2, .unset] [(.ref r0)])) _
    refine st11 _ ?_
    show Steps p.tables e below (T11.setTop (mkF m 45 #[rv r0, iv p1, rv r2, .val .null, .val (.long q4), .second, .val (.long (0 : Int64)), .second, iv (0 : Int32), iv (0 : Int32), iv p1, rv i2, .unset] [(.ref T1)])) _
    refine XS.iload X11.here hx rfl (hb hby d16_45) rfl ?_
    refine X11.aaload hx (j := (0 : Int32)) (v := (.ref t2)) (by rw [e11]; exact Ar12.1) (State.isArrayOf_alike hZ.alike Ar12.2.1) rfl Ar12.2.2 hin12 hat12 (g := (mkF m 47 #[rv r0, iv p1, rv r2, .val .null, .val (.long q4), .second, .val (.long (0 : Int64)), .second, iv (0 : Int32), iv (0 : Int32), iv p1, rv i2, .unset] [(.int (0 : Int32)), (.ref T1)])) rfl rfl (hb hby d16_47) _ ?_
    show Steps p.tables e below (T11.setTop (mkF m 48 #[rv r0, iv p1, rv r2, .val .null, .val (.long q4), .second, .val (.long (0 : Int64)), .second, iv (0 : Int32), iv (0 : Int32), iv p1, rv i2, .unset] [(.ref t2)])) _
    refine XS.astore X11.here hx rfl (hb hby d16_48) rfl rfl (l' := #[rv r0, iv p1, rv r2, .val .null, .val (.long q4), .second, .val (.long (0 : Int64)), .second, iv (0 : Int32), iv (0 : Int32), iv p1, rv i2, rv t2]) rfl ?_
    refine XS.aload X11.here hx rfl (hb hby d16_50) rfl rfl ?_
    refine XS.iconst X11.here hx rfl (hb hby d16_52) ?_
    refine XS.iload X11.here hx rfl (hb hby d16_53) rfl ?_
    refine XS.imul X11.here hx rfl (hb hby d16_55) rfl ?_
    refine XS.lload X11.here hx rfl (hb hby d16_56) rfl ?_
    exact kt
  obtain ⟨cl14, Ar14, q14, S14, M14, H14, G14⟩ := id ((Svt20.other W7 (Exa.ne ((Set20.wr W7).wr W9) ((Sei20.wr W7).wr W9) (by decide))).other W9 (Exa.ne ((Set20.wr W7).wr W9) ((Sei20.wr W7).wr W9) (by decide)))
  have hin14 : ¬ (((2 : Int32) * p1) < 0 ∨ cl14.slots.size ≤ (((2 : Int32) * p1)).toNatClampNeg) := own_inb S14 (n := 32) (by decide) (own_idx p1 16 hp (by decide)).2.2.1 ⟨by omega, by omega⟩
  obtain ⟨T14, h14, X14, e14, W14, st14⟩ := stJ X11 hx hZ e11 Ar14 (j := ((2 : Int32) * p1)) hin14 (g := (mkF m 58 #[rv r0, iv p1, rv r2, .val .null, .val (.long q4), .second, .val (.long (0 : Int64)), .second, iv (0 : Int32), iv (0 : Int32), iv p1, rv i2, rv t2] [(.long q4), (.int ((2 : Int32) * p1)), (.ref t2)])) rfl rfl (hb hby d16_58)
  have V14 : Arh Z h14 t2 kt .long (32 : Int32) [(((2 : Int32) * p1), (.long q4))] [] (.long (0 : Int64)) := Arh.push Ar14 q14 S14 M14 H14 G14 rfl W14 hin14
  have K14 : Keep h0 h14 [i2, t2, f2] := K9.wr W14 (Or.inl (List.mem_of_getElem? (i := 1) rfl))
  have N14 := Fr.snoc X14 N9 g_t2
  have pre15 : ∀ t, Steps p.tables e below (T14.setTop (mkF m 69 #[rv r0, iv p1, rv r2, .val .null, .val (.long q4), .second, .val (.long (0 : Int64)), .second, iv (0 : Int32), iv (0 : Int32), iv p1, rv i2, rv t2] [(.long (0 : Int64)), (.int (((2 : Int32) * p1) + (1 : Int32))), (.ref t2)])) t → Steps p.tables e below (s₁.setTop (entryFrame m #[(.ref r0), (.int p1), (.ref r2), .null, (.long q4), (.long (0 : Int64)), (.int (0 : Int32))] 13)) t := by
    intro t kt
    refine pre13 _ ?_
    show Steps p.tables e below (T11.setTop (mkF m 58 #[rv r0, iv p1, rv r2, .val .null, .val (.long q4), .second, .val (.long (0 : Int64)), .second, iv (0 : Int32), iv (0 : Int32), iv p1, rv i2, rv t2] [(.long q4), (.int ((2 : Int32) * p1)), (.ref t2)])) _
    refine st14 _ ?_
    show Steps p.tables e below (T14.setTop (mkF m 59 #[rv r0, iv p1, rv r2, .val .null, .val (.long q4), .second, .val (.long (0 : Int64)), .second, iv (0 : Int32), iv (0 : Int32), iv p1, rv i2, rv t2] [])) _
    refine XS.aload X14.here hx rfl (hb hby d16_59) rfl rfl ?_
    refine XS.iconst X14.here hx rfl (hb hby d16_61) ?_
    refine XS.iload X14.here hx rfl (hb hby d16_62) rfl ?_
    refine XS.imul X14.here hx rfl (hb hby d16_64) rfl ?_
    refine XS.iconst X14.here hx rfl (hb hby d16_65) ?_
    refine XS.iadd X14.here hx rfl (hb hby d16_66) rfl ?_
    show Steps p.tables e below (T14.setTop (mkF m 67 #[rv r0, iv p1, rv r2, .val .null, .val (.long q4), .second, .val (.long (0 : Int64)), .second, iv (0 : Int32), iv (0 : Int32), iv p1, rv i2, rv t2] [(.int (((2 : Int32) * p1) + (1 : Int32))), (.ref t2)])) _
    refine XS.lload X14.here hx rfl (hb hby d16_67) rfl ?_
    exact kt
  obtain ⟨cl16, Ar16, q16, S16, M16, H16, G16⟩ := id V14
  have hin16 : ¬ ((((2 : Int32) * p1) + (1 : Int32)) < 0 ∨ cl16.slots.size ≤ ((((2 : Int32) * p1) + (1 : Int32))).toNatClampNeg) := own_inb S16 (n := 32) (by decide) (own_idx p1 16 hp (by decide)).2.2.2 ⟨by omega, by omega⟩
  obtain ⟨T16, h16, X16, e16, W16, st16⟩ := stJ X14 hx hZ e14 Ar16 (j := (((2 : Int32) * p1) + (1 : Int32))) hin16 (g := (mkF m 69 #[rv r0, iv p1, rv r2, .val .null, .val (.long q4), .second, .val (.long (0 : Int64)), .second, iv (0 : Int32), iv (0 : Int32), iv p1, rv i2, rv t2] [(.long (0 : Int64)), (.int (((2 : Int32) * p1) + (1 : Int32))), (.ref t2)])) rfl rfl (hb hby d16_69)
  have V16 : Arh Z h16 t2 kt .long (32 : Int32) [((((2 : Int32) * p1) + (1 : Int32)), (.long (0 : Int64))), (((2 : Int32) * p1), (.long q4))] [] (.long (0 : Int64)) := Arh.push Ar16 q16 S16 M16 H16 G16 rfl W16 hin16
  have K16 : Keep h0 h16 [i2, t2, f2] := K14.wr W16 (Or.inl (List.mem_of_getElem? (i := 1) rfl))
  have N16 := Fr.snoc X16 N14 g_t2
  have pre17 : ∀ t, Steps p.tables e below (T16.setTop (mkF m 71 #[rv r0, iv p1, rv r2, .val .null, .val (.long q4), .second, .val (.long (0 : Int64)), .second, iv (0 : Int32), iv (0 : Int32), iv p1, rv i2, rv t2] [(.ref r0)])) t → Steps p.tables e below (s₁.setTop (entryFrame m #[(.ref r0), (.int p1), (.ref r2), .null, (.long q4), (.long (0 : Int64)), (.int (0 : Int32))] 13)) t := by
    intro t kt
    refine pre15 _ ?_
    show Steps p.tables e below (T14.setTop (mkF m 69 #[rv r0, iv p1, rv r2, .val .null, .val (.long q4), .second, .val (.long (0 : Int64)), .second, iv (0 : Int32), iv (0 : Int32), iv p1, rv i2, rv t2] [(.long (0 : Int64)), (.int (((2 : Int32) * p1) + (1 : Int32))), (.ref t2)])) _
    refine st16 _ ?_
    show Steps p.tables e below (T16.setTop (mkF m 70 #[rv r0, iv p1, rv r2, .val .null, .val (.long q4), .second, .val (.long (0 : Int64)), .second, iv (0 : Int32), iv (0 : Int32), iv p1, rv i2, rv t2] [])) _
    refine XS.aloadN X16.here hx rfl (hb hby d16_70) rfl rfl ?_
    exact kt
  obtain ⟨T18, X18, e18, st18⟩ := getF X16 hx hZ hown (host := "") (Or.inl (hw _ (List.mem_of_getElem? (i := 19) rfl))) Via.refl e16 ((((Sfl0.other W7 (Or.inl (Exa.ne ((((E_r0.wr W7).wr W9).wr W14).wr W16) ((((Sei20.wr W7).wr W9).wr W14).wr W16) (by decide)))).other W9 (Or.inl (Exa.ne ((((E_r0.wr W7).wr W9).wr W14).wr W16) ((((Sei20.wr W7).wr W9).wr W14).wr W16) (by decide)))).other W14 (Or.inl (Exa.ne ((((E_r0.wr W7).wr W9).wr W14).wr W16) ((((Set20.wr W7).wr W9).wr W14).wr W16) (by decide)))).other W16 (Or.inl (Exa.ne ((((E_r0.wr W7).wr W9).wr W14).wr W16) ((((Set20.wr W7).wr W9).wr W14).wr W16) (by decide)))) (g := (mkF m 71 #[rv r0, iv p1, rv r2, .val .null, .val (.long q4), .second, .val (.long (0 : Int64)), .second, iv (0 : Int32), iv (0 : Int32), iv p1, rv i2, rv t2] [(.ref r0)])) rfl rfl (hb hby d16_71)
  obtain ⟨cl19, Ar19, q19, S19, M19, H19, G19⟩ := id ((((SvF10.other W7 (Exa.ne ((((SeF10.wr W7).wr W9).wr W14).wr W16) ((((Sei20.wr W7).wr W9).wr W14).wr W16) (by decide))).other W9 (Exa.ne ((((SeF10.wr W7).wr W9).wr W14).wr W16) ((((Sei20.wr W7).wr W9).wr W14).wr W16) (by decide))).other W14 (Exa.ne ((((SeF10.wr W7).wr W9).wr W14).wr W16) ((((Set20.wr W7).wr W9).wr W14).wr W16) (by decide))).other W16 (Exa.ne ((((SeF10.wr W7).wr W9).wr W14).wr W16) ((((Set20.wr W7).wr W9).wr W14).wr W16) (by decide)))
  have hin19 : ¬ ((0 : Int32) < 0 ∨ cl19.slots.size ≤ ((0 : Int32)).toNatClampNeg) := inb_of S19 ⟨by decide, by decide⟩
  have hat19 : cl19.slots[((0 : Int32)).toNatClampNeg]? = some (.ref f2) := H19.at hin19 rfl
  have pre20 : ∀ t, Steps p.tables e below (T18.setTop (mkF m 81 #[rv r0, iv p1, rv r2, .val .null, .val (.long q4), .second, .val (.long (0 : Int64)), .second, iv (0 : Int32), iv (0 : Int32), iv p1, rv i2, rv t2] [(.int (0 : Int32)), (.int p1), (.ref f2)])) t → Steps p.tables e below (s₁.setTop (entryFrame m #[(.ref r0), (.int p1), (.ref r2), .null, (.long q4), (.long (0 : Int64)), (.int (0 : Int32))] 13)) t := by
    intro t kt
    refine pre17 _ ?_
    show Steps p.tables e below (T16.setTop (mkF m 71 #[rv r0, iv p1, rv r2, .val .null, .val (.long q4), .second, .val (.long (0 : Int64)), .second, iv (0 : Int32), iv (0 : Int32), iv p1, rv i2, rv t2] [(.ref r0)])) _
    refine st18 _ ?_
    show Steps p.tables e below (T18.setTop (mkF m 74 #[rv r0, iv p1, rv r2, .val .null, .val (.long q4), .second, .val (.long (0 : Int64)), .second, iv (0 : Int32), iv (0 : Int32), iv p1, rv i2, rv t2] [(.ref F1)])) _
    refine XS.iload X18.here hx rfl (hb hby d16_74) rfl ?_
    refine X18.aaload hx (j := (0 : Int32)) (v := (.ref f2)) (by rw [e18]; exact Ar19.1) (State.isArrayOf_alike hZ.alike Ar19.2.1) rfl Ar19.2.2 hin19 hat19 (g := (mkF m 76 #[rv r0, iv p1, rv r2, .val .null, .val (.long q4), .second, .val (.long (0 : Int64)), .second, iv (0 : Int32), iv (0 : Int32), iv p1, rv i2, rv t2] [(.int (0 : Int32)), (.ref F1)])) rfl rfl (hb hby d16_76) _ ?_
    show Steps p.tables e below (T18.setTop (mkF m 77 #[rv r0, iv p1, rv r2, .val .null, .val (.long q4), .second, .val (.long (0 : Int64)), .second, iv (0 : Int32), iv (0 : Int32), iv p1, rv i2, rv t2] [(.ref f2)])) _
    refine XS.iload X18.here hx rfl (hb hby d16_77) rfl ?_
    refine XS.iload X18.here hx rfl (hb hby d16_79) rfl ?_
    exact kt
  obtain ⟨cl21, Ar21, q21, S21, M21, H21, G21⟩ := id ((((Svf20.other W7 (Exa.ne ((((Sef20.wr W7).wr W9).wr W14).wr W16) ((((Sei20.wr W7).wr W9).wr W14).wr W16) (by decide))).other W9 (Exa.ne ((((Sef20.wr W7).wr W9).wr W14).wr W16) ((((Sei20.wr W7).wr W9).wr W14).wr W16) (by decide))).other W14 (Exa.ne ((((Sef20.wr W7).wr W9).wr W14).wr W16) ((((Set20.wr W7).wr W9).wr W14).wr W16) (by decide))).other W16 (Exa.ne ((((Sef20.wr W7).wr W9).wr W14).wr W16) ((((Set20.wr W7).wr W9).wr W14).wr W16) (by decide)))
  have hin21 : ¬ (p1 < 0 ∨ cl21.slots.size ≤ (p1).toNatClampNeg) := own_inb S21 (n := 16) (by decide) rfl hp
  obtain ⟨T21, h21, X21, e21, W21, st21⟩ := stB X18 hx hZ e18 Ar21 (j := p1) hin21 (g := (mkF m 81 #[rv r0, iv p1, rv r2, .val .null, .val (.long q4), .second, .val (.long (0 : Int64)), .second, iv (0 : Int32), iv (0 : Int32), iv p1, rv i2, rv t2] [(.int (0 : Int32)), (.int p1), (.ref f2)])) rfl rfl (hb hby d16_81)
  have nn21 : nar .byte (0 : Int32) = (0 : Int32) := (by decide)
  rw [nn21] at W21
  have V21 : Arh Z h21 f2 kf .byte (16 : Int32) [(p1, (.int (0 : Int32)))] [] (.int (0 : Int32)) := Arh.push Ar21 q21 S21 M21 H21 G21 (own_fb nn21) W21 hin21
  have K21 : Keep h0 h21 [i2, t2, f2] := K16.wr W21 (Or.inl (List.mem_of_getElem? (i := 2) rfl))
  have N21 := Fr.snoc X21 N16 g_f2
  have pre22 : ∀ t, Steps p.tables e below (T21.setTop (mkF m 82 #[rv r0, iv p1, rv r2, .val .null, .val (.long q4), .second, .val (.long (0 : Int64)), .second, iv (0 : Int32), iv (0 : Int32), iv p1, rv i2, rv t2] [])) t → Steps p.tables e below (s₁.setTop (entryFrame m #[(.ref r0), (.int p1), (.ref r2), .null, (.long q4), (.long (0 : Int64)), (.int (0 : Int32))] 13)) t := by
    intro t kt
    refine pre20 _ ?_
    show Steps p.tables e below (T18.setTop (mkF m 81 #[rv r0, iv p1, rv r2, .val .null, .val (.long q4), .second, .val (.long (0 : Int64)), .second, iv (0 : Int32), iv (0 : Int32), iv p1, rv i2, rv t2] [(.int (0 : Int32)), (.int p1), (.ref f2)])) _
    refine st21 _ ?_
    exact kt
  obtain ⟨fs, hr, hrun, hended, hW, hsame⟩ := X21.leave (v := none) (fun _ => rfl)
  refine ⟨_, _, pre22 _ ?_, hrun, hended, _, _, rfl, ?_, ⟨_, rfl⟩, hW, hsame.mono (by decide) (by decide)⟩
  · show Steps p.tables e below (T21.setTop (mkF m 82 #[rv r0, iv p1, rv r2, .val .null, .val (.long q4), .second, .val (.long (0 : Int64)), .second, iv (0 : Int32), iv (0 : Int32), iv p1, rv i2, rv t2] [])) _
    exact X21.returnOut hx Bd.returns (hb hby d16_82) hr
  · show Q16c16 Z r0 p1 r2 q4 I1 T1 F1 i2 t2 f2 kI kT kF ki kt kf h0 n0 _ T21.heap _
    rw [e21]
    exact ⟨rfl, N21, K21, (((V9.other W14 (Exa.ne (((((Sei20.wr W7).wr W9).wr W14).wr W16).wr W21) (((((Set20.wr W7).wr W9).wr W14).wr W16).wr W21) (by decide))).other W16 (Exa.ne (((((Sei20.wr W7).wr W9).wr W14).wr W16).wr W21) (((((Set20.wr W7).wr W9).wr W14).wr W16).wr W21) (by decide))).other W21 (Exa.ne (((((Sei20.wr W7).wr W9).wr W14).wr W16).wr W21) (((((Sef20.wr W7).wr W9).wr W14).wr W16).wr W21) (by decide))), (V16.other W21 (Exa.ne (((((Set20.wr W7).wr W9).wr W14).wr W16).wr W21) (((((Sef20.wr W7).wr W9).wr W14).wr W16).wr W21) (by decide)))⟩

theorem ef_16c32 (m : MethodId) (x0 : Addr) (x1 : Int32) (x2 : Addr) (x4 : Int64) (x5 : Int64) (x6 : Int32) : entryFrame m #[(.ref x0), (.int x1), (.ref x2), .null, (.long x4), (.long x5), (.int x6)] 13 = mkF m 0 #[.val (.ref x0), .val (.int x1), .val (.ref x2), .val .null, .val (.long x4), .second, .val (.long x5), .second, .val (.int x6), .unset, .unset, .unset, .unset] [] := by first | (simp [entryFrame, mkF, argsToLocals, Value.category]; done) | rfl
def Q16c32 (Z : State) (r0 : Addr) (p1 : Int32) (r2 : Addr) (q4 : Int64) (I1 : Addr) (T1 : Addr) (F1 : Addr) (i2 : Addr) (t2 : Addr) (f2 : Addr) (kI : ClassId) (kT : ClassId) (kF : ClassId) (ki : ClassId) (kt : ClassId) (kf : ClassId) (h0 : Heap) (n0 : Nat) (v : Option Value) (h : Heap) (L : List Loc) : Prop := v = none ∧ Fr n0 L ∧ Keep h0 h [i2, t2, f2] ∧ Arh Z h i2 ki (.object "java/lang/Object") (64 : Int32) [((((2 : Int32) * p1) + (1 : Int32)), .null), (((2 : Int32) * p1), (.ref r2))] [] .null ∧ Arh Z h t2 kt .long (64 : Int32) [((((2 : Int32) * p1) + (1 : Int32)), (.long (0 : Int64))), (((2 : Int32) * p1), (.long q4))] [] (.long (0 : Int64))
set_option maxRecDepth 65536 in
set_option maxHeartbeats 40000000 in
theorem rm16c32 (l : Launch) (Z : State) (a0 : Array Value) (hw : ∀ d ∈ tables_1, d.before a0 Z = true) (ws : List Jvm.Cond) (r0 : Addr) (p1 : Int32) (r2 : Addr) (q4 : Int64) (I1 : Addr) (T1 : Addr) (F1 : Addr) (i2 : Addr) (t2 : Addr) (f2 : Addr) (kI : ClassId) (kT : ClassId) (kF : ClassId) (ki : ClassId) (kt : ClassId) (kf : ClassId) (h0 : Heap) (n0 : Nat) (Z0 : n0 ≤ h0.size) (SL : own_Sl Z h0 r0 I1 T1 F1 i2 t2 f2 kI kT kF ki kt kf (32 : Int32) (64 : Int32)) (E_r0 : Exa Z h0 r0 "com/example/loopsmith/loopsmith/queue/Slots") (g_r0 : n0 ≤ r0) (g_I1 : n0 ≤ I1) (g_T1 : n0 ≤ T1) (g_F1 : n0 ≤ F1) (g_i2 : n0 ≤ i2) (g_t2 : n0 ≤ t2) (g_f2 : n0 ≤ f2) (E_r2 : Exa Z h0 r2 "java/lang/Integer") (O0 : Old Z n0 h0) (S_bb : Sta Z Z.heap "com/example/loopsmith/loopsmith/queue/Slots" "BLOCK_BITS" "I" (.int (10 : Int32))) (hp : 0 ≤ p1.toInt ∧ p1.toInt < 32) :
    MetFree l (⟨"com/example/loopsmith/loopsmith/queue/Slots", "set", "(ILjava/lang/Object;Lcom/example/loopsmith/loopsmith/queue/Message$Target;JJB)V"⟩ : MethodName) (head1 (Jvm.Cond.code (⟨"com/example/loopsmith/loopsmith/queue/Slots", "set", "(ILjava/lang/Object;Lcom/example/loopsmith/loopsmith/queue/Message$Target;JJB)V"⟩ : MethodName) prog_42_method_11_code 13 none :: ws) ({ frames := 0, cells := 0, slots := 0, locals := 0 } : Room)) (fun a U => a = #[(.ref r0), (.int p1), (.ref r2), .null, (.long q4), (.long (0 : Int64)), (.int (0 : Int32))] ∧ Z.Warmed39 U.vm ∧ U.heap = h0) (fun _ _ _ _ _ => True) (fun _ U o U' => ∃ v L, o = .returned v ∧ Q16c32 Z r0 p1 r2 q4 I1 T1 F1 i2 t2 f2 kI kT kF ki kt kf h0 n0 v U'.heap L ∧ FrameEnd U o U' L ({ frames := 0, cells := 0, slots := 0, locals := 0 } : Room).cells ({ frames := 0, cells := 0, slots := 0, locals := 0 } : Room).slots) := by
  refine MetFree.of_bodySF (plainFor_of_name pn4) hisR ?_
  intro p e s m args below meth c s₁ Bd hml0 hP hK
  obtain ⟨rfl, hZ, hh⟩ := hP
  have hx := Bd.exec
  have hby := Bd.bytes
  have hml : c.maxLocals = 13 := hml0
  have hown : s.vm.findClass "com/example/loopsmith/loopsmith/queue/Slots" = some m.cls := findClass_of_methodNamed Bd.named
  have hnm := (name_of_methodNamed Bd.named Bd.method).1
  have X0 : Stand p l e ({ frames := 0, cells := 0, slots := 0, locals := 0 } : Room) s m #[(.ref r0), (.int p1), (.ref r2), .null, (.long q4), (.long (0 : Int64)), (.int (0 : Int32))] below meth c s₁ [] 0 0 := Stand.of_body Bd
  have e0 : s₁.heap = h0 := by rw [← hh, Bd.state]; rfl
  have N0 := Fr.nil n0
  have pre0 : ∀ t, Steps p.tables e below (s₁.setTop (mkF m 0 #[rv r0, iv p1, rv r2, .val .null, .val (.long q4), .second, .val (.long (0 : Int64)), .second, iv (0 : Int32), .unset, .unset, .unset, .unset] [])) t → Steps p.tables e below (s₁.setTop (entryFrame m #[(.ref r0), (.int p1), (.ref r2), .null, (.long q4), (.long (0 : Int64)), (.int (0 : Int32))] 13)) t := fun t k => castTop (ef_16c32 m r0 p1 r2 q4 (0 : Int64) (0 : Int32)) k
  obtain ⟨Sit0, Sti0, Sfl0, ⟨wb0, Sbl0⟩, Sca0, SeI10, SeT10, SeF10, Sei20, Set20, Sef20, SvI10, SvT10, SvF10, Svi20, Svt20, Svf20, SoI10, SoT10, SoF10, Soi20⟩ := id SL
  have pre1 : ∀ t, Steps p.tables e below (s₁.setTop (mkF m 1 #[rv r0, iv p1, rv r2, .val .null, .val (.long q4), .second, .val (.long (0 : Int64)), .second, iv (0 : Int32), .unset, .unset, .unset, .unset] [(.int p1)])) t → Steps p.tables e below (s₁.setTop (entryFrame m #[(.ref r0), (.int p1), (.ref r2), .null, (.long q4), (.long (0 : Int64)), (.int (0 : Int32))] 13)) t := by
    intro t kt
    refine pre0 _ ?_
    show Steps p.tables e below (s₁.setTop (mkF m 0 #[rv r0, iv p1, rv r2, .val .null, .val (.long q4), .second, .val (.long (0 : Int64)), .second, iv (0 : Int32), .unset, .unset, .unset, .unset] [])) _
    refine XS.iloadN X0.here hx rfl (hb hby d16_0) rfl ?_
    exact kt
  obtain ⟨T2, X2, e2, st2⟩ := getS2 X0 hx hZ hown (host := "") (Or.inl (hw _ (List.mem_of_getElem? (i := 113) rfl))) Via.refl e0 (S_bb.ext (O0.keep (Keep.refl h0 [i2, t2, f2]) (allS g_i2 (allS g_t2 (allS g_f2 all0)))).2) (g := (mkF m 1 #[rv r0, iv p1, rv r2, .val .null, .val (.long q4), .second, .val (.long (0 : Int64)), .second, iv (0 : Int32), .unset, .unset, .unset, .unset] [(.int p1)])) rfl (hb hby d16_1)
  have pre3 : ∀ t, Steps p.tables e below (T2.setTop (mkF m 15 #[rv r0, iv p1, rv r2, .val .null, .val (.long q4), .second, .val (.long (0 : Int64)), .second, iv (0 : Int32), iv (0 : Int32), iv p1, .unset, .unset] [(.ref r0)])) t → Steps p.tables e below (s₁.setTop (entryFrame m #[(.ref r0), (.int p1), (.ref r2), .null, (.long q4), (.long (0 : Int64)), (.int (0 : Int32))] 13)) t := by
    intro t kt
    refine pre1 _ ?_
    show Steps p.tables e below (s₁.setTop (mkF m 1 #[rv r0, iv p1, rv r2, .val .null, .val (.long q4), .second, .val (.long (0 : Int64)), .second, iv (0 : Int32), .unset, .unset, .unset, .unset] [(.int p1)])) _
    refine st2 _ ?_
    show Steps p.tables e below (T2.setTop (mkF m 4 #[rv r0, iv p1, rv r2, .val .null, .val (.long q4), .second, .val (.long (0 : Int64)), .second, iv (0 : Int32), .unset, .unset, .unset, .unset] [(.int (10 : Int32)), (.int p1)])) _
    refine XS.iushr X2.here hx rfl (hb hby d16_4) rfl ?_
    show Steps p.tables e below (T2.setTop (mkF m 5 #[rv r0, iv p1, rv r2, .val .null, .val (.long q4), .second, .val (.long (0 : Int64)), .second, iv (0 : Int32), .unset, .unset, .unset, .unset] [(.int ((p1.toUInt32 >>> ((10 : Int32) &&& 31).toUInt32).toInt32))])) _
    rw [show ((p1.toUInt32 >>> ((10 : Int32) &&& 31).toUInt32).toInt32) = (0 : Int32) from (own_idx p1 32 hp (by decide)).1]
    show Steps p.tables e below (T2.setTop (mkF m 5 #[rv r0, iv p1, rv r2, .val .null, .val (.long q4), .second, .val (.long (0 : Int64)), .second, iv (0 : Int32), .unset, .unset, .unset, .unset] [(.int (0 : Int32))])) _
    refine XS.istore X2.here hx rfl (hb hby d16_5) rfl (l' := #[rv r0, iv p1, rv r2, .val .null, .val (.long q4), .second, .val (.long (0 : Int64)), .second, iv (0 : Int32), iv (0 : Int32), .unset, .unset, .unset]) rfl ?_
    refine XS.iloadN X2.here hx rfl (hb hby d16_7) rfl ?_
    refine XS.sipush X2.here hx rfl (hb hby d16_8) ?_
    refine XS.iand X2.here hx rfl (hb hby d16_11) rfl ?_
    show Steps p.tables e below (T2.setTop (mkF m 12 #[rv r0, iv p1, rv r2, .val .null, .val (.long q4), .second, .val (.long (0 : Int64)), .second, iv (0 : Int32), iv (0 : Int32), .unset, .unset, .unset] [(.int (p1 &&& (1023 : Int32)))])) _
    rw [show (p1 &&& (1023 : Int32)) = p1 from (own_idx p1 32 hp (by decide)).2.1]
    show Steps p.tables e below (T2.setTop (mkF m 12 #[rv r0, iv p1, rv r2, .val .null, .val (.long q4), .second, .val (.long (0 : Int64)), .second, iv (0 : Int32), iv (0 : Int32), .unset, .unset, .unset] [(.int p1)])) _
    refine XS.istore X2.here hx rfl (hb hby d16_12) rfl (l' := #[rv r0, iv p1, rv r2, .val .null, .val (.long q4), .second, .val (.long (0 : Int64)), .second, iv (0 : Int32), iv (0 : Int32), iv p1, .unset, .unset]) rfl ?_
    refine XS.aloadN X2.here hx rfl (hb hby d16_14) rfl rfl ?_
    exact kt
  obtain ⟨T4, X4, e4, st4⟩ := getF X2 hx hZ hown (host := "") (Or.inl (hw _ (List.mem_of_getElem? (i := 11) rfl))) Via.refl e2 Sit0 (g := (mkF m 15 #[rv r0, iv p1, rv r2, .val .null, .val (.long q4), .second, .val (.long (0 : Int64)), .second, iv (0 : Int32), iv (0 : Int32), iv p1, .unset, .unset] [(.ref r0)])) rfl rfl (hb hby d16_15)
  obtain ⟨cl5, Ar5, q5, S5, M5, H5, G5⟩ := id SvI10
  have hin5 : ¬ ((0 : Int32) < 0 ∨ cl5.slots.size ≤ ((0 : Int32)).toNatClampNeg) := inb_of S5 ⟨by decide, by decide⟩
  have hat5 : cl5.slots[((0 : Int32)).toNatClampNeg]? = some (.ref i2) := H5.at hin5 rfl
  have pre6 : ∀ t, Steps p.tables e below (T4.setTop (mkF m 30 #[rv r0, iv p1, rv r2, .val .null, .val (.long q4), .second, .val (.long (0 : Int64)), .second, iv (0 : Int32), iv (0 : Int32), iv p1, rv i2, .unset] [(.ref r2), (.int ((2 : Int32) * p1)), (.ref i2)])) t → Steps p.tables e below (s₁.setTop (entryFrame m #[(.ref r0), (.int p1), (.ref r2), .null, (.long q4), (.long (0 : Int64)), (.int (0 : Int32))] 13)) t := by
    intro t kt
    refine pre3 _ ?_
    show Steps p.tables e below (T2.setTop (mkF m 15 #[rv r0, iv p1, rv r2, .val .null, .val (.long q4), .second, .val (.long (0 : Int64)), .second, iv (0 : Int32), iv (0 : Int32), iv p1, .unset, .unset] [(.ref r0)])) _
    refine st4 _ ?_
    show Steps p.tables e below (T4.setTop (mkF m 18 #[rv r0, iv p1, rv r2, .val .null, .val (.long q4), .second, .val (.long (0 : Int64)), .second, iv (0 : Int32), iv (0 : Int32), iv p1, .unset, .unset] [(.ref I1)])) _
    refine XS.iload X4.here hx rfl (hb hby d16_18) rfl ?_
    refine X4.aaload hx (j := (0 : Int32)) (v := (.ref i2)) (by rw [e4]; exact Ar5.1) (State.isArrayOf_alike hZ.alike Ar5.2.1) rfl Ar5.2.2 hin5 hat5 (g := (mkF m 20 #[rv r0, iv p1, rv r2, .val .null, .val (.long q4), .second, .val (.long (0 : Int64)), .second, iv (0 : Int32), iv (0 : Int32), iv p1, .unset, .unset] [(.int (0 : Int32)), (.ref I1)])) rfl rfl (hb hby d16_20) _ ?_
    show Steps p.tables e below (T4.setTop (mkF m 21 #[rv r0, iv p1, rv r2, .val .null, .val (.long q4), .second, .val (.long (0 : Int64)), .second, iv (0 : Int32), iv (0 : Int32), iv p1, .unset, .unset] [(.ref i2)])) _
    refine XS.astore X4.here hx rfl (hb hby d16_21) rfl rfl (l' := #[rv r0, iv p1, rv r2, .val .null, .val (.long q4), .second, .val (.long (0 : Int64)), .second, iv (0 : Int32), iv (0 : Int32), iv p1, rv i2, .unset]) rfl ?_
    refine XS.aload X4.here hx rfl (hb hby d16_23) rfl rfl ?_
    refine XS.iconst X4.here hx rfl (hb hby d16_25) ?_
    refine XS.iload X4.here hx rfl (hb hby d16_26) rfl ?_
    refine XS.imul X4.here hx rfl (hb hby d16_28) rfl ?_
    refine XS.aloadN X4.here hx rfl (hb hby d16_29) rfl rfl ?_
    exact kt
  obtain ⟨cl7, Ar7, q7, S7, M7, H7, G7⟩ := id Svi20
  have hin7 : ¬ (((2 : Int32) * p1) < 0 ∨ cl7.slots.size ≤ (((2 : Int32) * p1)).toNatClampNeg) := own_inb S7 (n := 64) (by decide) (own_idx p1 32 hp (by decide)).2.2.1 ⟨by omega, by omega⟩
  obtain ⟨T7, h7, X7, e7, W7, st7⟩ := stR X4 hx hZ e4 Ar7 (j := ((2 : Int32) * p1)) hin7 rfl (Sto.ofV Ar7 q7 Soi20 (Ins.of_exa E_r2 (hw _ (List.mem_of_getElem? (i := 115) rfl)))) (g := (mkF m 30 #[rv r0, iv p1, rv r2, .val .null, .val (.long q4), .second, .val (.long (0 : Int64)), .second, iv (0 : Int32), iv (0 : Int32), iv p1, rv i2, .unset] [(.ref r2), (.int ((2 : Int32) * p1)), (.ref i2)])) rfl rfl (hb hby d16_30)
  have V7 : Arh Z h7 i2 ki (.object "java/lang/Object") (64 : Int32) [(((2 : Int32) * p1), (.ref r2))] [] .null := Arh.push Ar7 q7 S7 M7 H7 G7 rfl W7 hin7
  have K7 : Keep h0 h7 [i2, t2, f2] := (Keep.refl h0 [i2, t2, f2]).wr W7 (Or.inl (List.mem_of_getElem? (i := 0) rfl))
  have N7 := Fr.snoc X7 N0 g_i2
  have pre8 : ∀ t, Steps p.tables e below (T7.setTop (mkF m 40 #[rv r0, iv p1, rv r2, .val .null, .val (.long q4), .second, .val (.long (0 : Int64)), .second, iv (0 : Int32), iv (0 : Int32), iv p1, rv i2, .unset] [.null, (.int (((2 : Int32) * p1) + (1 : Int32))), (.ref i2)])) t → Steps p.tables e below (s₁.setTop (entryFrame m #[(.ref r0), (.int p1), (.ref r2), .null, (.long q4), (.long (0 : Int64)), (.int (0 : Int32))] 13)) t := by
    intro t kt
    refine pre6 _ ?_
    show Steps p.tables e below (T4.setTop (mkF m 30 #[rv r0, iv p1, rv r2, .val .null, .val (.long q4), .second, .val (.long (0 : Int64)), .second, iv (0 : Int32), iv (0 : Int32), iv p1, rv i2, .unset] [(.ref r2), (.int ((2 : Int32) * p1)), (.ref i2)])) _
    refine st7 _ ?_
    show Steps p.tables e below (T7.setTop (mkF m 31 #[rv r0, iv p1, rv r2, .val .null, .val (.long q4), .second, .val (.long (0 : Int64)), .second, iv (0 : Int32), iv (0 : Int32), iv p1, rv i2, .unset] [])) _
    refine XS.aload X7.here hx rfl (hb hby d16_31) rfl rfl ?_
    refine XS.iconst X7.here hx rfl (hb hby d16_33) ?_
    refine XS.iload X7.here hx rfl (hb hby d16_34) rfl ?_
    refine XS.imul X7.here hx rfl (hb hby d16_36) rfl ?_
    refine XS.iconst X7.here hx rfl (hb hby d16_37) ?_
    refine XS.iadd X7.here hx rfl (hb hby d16_38) rfl ?_
    show Steps p.tables e below (T7.setTop (mkF m 39 #[rv r0, iv p1, rv r2, .val .null, .val (.long q4), .second, .val (.long (0 : Int64)), .second, iv (0 : Int32), iv (0 : Int32), iv p1, rv i2, .unset] [(.int (((2 : Int32) * p1) + (1 : Int32))), (.ref i2)])) _
    refine XS.aloadN X7.here hx rfl (hb hby d16_39) rfl rfl ?_
    exact kt
  obtain ⟨cl9, Ar9, q9, S9, M9, H9, G9⟩ := id V7
  have hin9 : ¬ ((((2 : Int32) * p1) + (1 : Int32)) < 0 ∨ cl9.slots.size ≤ ((((2 : Int32) * p1) + (1 : Int32))).toNatClampNeg) := own_inb S9 (n := 64) (by decide) (own_idx p1 32 hp (by decide)).2.2.2 ⟨by omega, by omega⟩
  obtain ⟨T9, h9, X9, e9, W9, st9⟩ := stR X7 hx hZ e7 Ar9 (j := (((2 : Int32) * p1) + (1 : Int32))) hin9 rfl (Or.inl rfl) (g := (mkF m 40 #[rv r0, iv p1, rv r2, .val .null, .val (.long q4), .second, .val (.long (0 : Int64)), .second, iv (0 : Int32), iv (0 : Int32), iv p1, rv i2, .unset] [.null, (.int (((2 : Int32) * p1) + (1 : Int32))), (.ref i2)])) rfl rfl (hb hby d16_40)
  have V9 : Arh Z h9 i2 ki (.object "java/lang/Object") (64 : Int32) [((((2 : Int32) * p1) + (1 : Int32)), .null), (((2 : Int32) * p1), (.ref r2))] [] .null := Arh.push Ar9 q9 S9 M9 H9 G9 rfl W9 hin9
  have K9 : Keep h0 h9 [i2, t2, f2] := K7.wr W9 (Or.inl (List.mem_of_getElem? (i := 0) rfl))
  have N9 := Fr.snoc X9 N7 g_i2
  have pre10 : ∀ t, Steps p.tables e below (T9.setTop (mkF m 42 #[rv r0, iv p1, rv r2, .val .null, .val (.long q4), .second, .val (.long (0 : Int64)), .second, iv (0 : Int32), iv (0 : Int32), iv p1, rv i2, .unset] [(.ref r0)])) t → Steps p.tables e below (s₁.setTop (entryFrame m #[(.ref r0), (.int p1), (.ref r2), .null, (.long q4), (.long (0 : Int64)), (.int (0 : Int32))] 13)) t := by
    intro t kt
    refine pre8 _ ?_
    show Steps p.tables e below (T7.setTop (mkF m 40 #[rv r0, iv p1, rv r2, .val .null, .val (.long q4), .second, .val (.long (0 : Int64)), .second, iv (0 : Int32), iv (0 : Int32), iv p1, rv i2, .unset] [.null, (.int (((2 : Int32) * p1) + (1 : Int32))), (.ref i2)])) _
    refine st9 _ ?_
    show Steps p.tables e below (T9.setTop (mkF m 41 #[rv r0, iv p1, rv r2, .val .null, .val (.long q4), .second, .val (.long (0 : Int64)), .second, iv (0 : Int32), iv (0 : Int32), iv p1, rv i2, .unset] [])) _
    refine XS.aloadN X9.here hx rfl (hb hby d16_41) rfl rfl ?_
    exact kt
  obtain ⟨T11, X11, e11, st11⟩ := getF X9 hx hZ hown (host := "") (Or.inl (hw _ (List.mem_of_getElem? (i := 15) rfl))) Via.refl e9 ((Sti0.other W7 (Or.inl (Exa.ne ((E_r0.wr W7).wr W9) ((Sei20.wr W7).wr W9) (by decide)))).other W9 (Or.inl (Exa.ne ((E_r0.wr W7).wr W9) ((Sei20.wr W7).wr W9) (by decide)))) (g := (mkF m 42 #[rv r0, iv p1, rv r2, .val .null, .val (.long q4), .second, .val (.long (0 : Int64)), .second, iv (0 : Int32), iv (0 : Int32), iv p1, rv i2, .unset] [(.ref r0)])) rfl rfl (hb hby d16_42)
  obtain ⟨cl12, Ar12, q12, S12, M12, H12, G12⟩ := id ((SvT10.other W7 (Exa.ne ((SeT10.wr W7).wr W9) ((Sei20.wr W7).wr W9) (by decide))).other W9 (Exa.ne ((SeT10.wr W7).wr W9) ((Sei20.wr W7).wr W9) (by decide)))
  have hin12 : ¬ ((0 : Int32) < 0 ∨ cl12.slots.size ≤ ((0 : Int32)).toNatClampNeg) := inb_of S12 ⟨by decide, by decide⟩
  have hat12 : cl12.slots[((0 : Int32)).toNatClampNeg]? = some (.ref t2) := H12.at hin12 rfl
  have pre13 : ∀ t, Steps p.tables e below (T11.setTop (mkF m 58 #[rv r0, iv p1, rv r2, .val .null, .val (.long q4), .second, .val (.long (0 : Int64)), .second, iv (0 : Int32), iv (0 : Int32), iv p1, rv i2, rv t2] [(.long q4), (.int ((2 : Int32) * p1)), (.ref t2)])) t → Steps p.tables e below (s₁.setTop (entryFrame m #[(.ref r0), (.int p1), (.ref r2), .null, (.long q4), (.long (0 : Int64)), (.int (0 : Int32))] 13)) t := by
    intro t kt
    refine pre10 _ ?_
    show Steps p.tables e below (T9.setTop (mkF m 42 #[rv r0, iv p1, rv r2, .val .null, .val (.long q4), .second, .val (.long (0 : Int64)), .second, iv (0 : Int32), iv (0 : Int32), iv p1, rv i2, .unset] [(.ref r0)])) _
    refine st11 _ ?_
    show Steps p.tables e below (T11.setTop (mkF m 45 #[rv r0, iv p1, rv r2, .val .null, .val (.long q4), .second, .val (.long (0 : Int64)), .second, iv (0 : Int32), iv (0 : Int32), iv p1, rv i2, .unset] [(.ref T1)])) _
    refine XS.iload X11.here hx rfl (hb hby d16_45) rfl ?_
    refine X11.aaload hx (j := (0 : Int32)) (v := (.ref t2)) (by rw [e11]; exact Ar12.1) (State.isArrayOf_alike hZ.alike Ar12.2.1) rfl Ar12.2.2 hin12 hat12 (g := (mkF m 47 #[rv r0, iv p1, rv r2, .val .null, .val (.long q4), .second, .val (.long (0 : Int64)), .second, iv (0 : Int32), iv (0 : Int32), iv p1, rv i2, .unset] [(.int (0 : Int32)), (.ref T1)])) rfl rfl (hb hby d16_47) _ ?_
    show Steps p.tables e below (T11.setTop (mkF m 48 #[rv r0, iv p1, rv r2, .val .null, .val (.long q4), .second, .val (.long (0 : Int64)), .second, iv (0 : Int32), iv (0 : Int32), iv p1, rv i2, .unset] [(.ref t2)])) _
    refine XS.astore X11.here hx rfl (hb hby d16_48) rfl rfl (l' := #[rv r0, iv p1, rv r2, .val .null, .val (.long q4), .second, .val (.long (0 : Int64)), .second, iv (0 : Int32), iv (0 : Int32), iv p1, rv i2, rv t2]) rfl ?_
    refine XS.aload X11.here hx rfl (hb hby d16_50) rfl rfl ?_
    refine XS.iconst X11.here hx rfl (hb hby d16_52) ?_
    refine XS.iload X11.here hx rfl (hb hby d16_53) rfl ?_
    refine XS.imul X11.here hx rfl (hb hby d16_55) rfl ?_
    refine XS.lload X11.here hx rfl (hb hby d16_56) rfl ?_
    exact kt
  obtain ⟨cl14, Ar14, q14, S14, M14, H14, G14⟩ := id ((Svt20.other W7 (Exa.ne ((Set20.wr W7).wr W9) ((Sei20.wr W7).wr W9) (by decide))).other W9 (Exa.ne ((Set20.wr W7).wr W9) ((Sei20.wr W7).wr W9) (by decide)))
  have hin14 : ¬ (((2 : Int32) * p1) < 0 ∨ cl14.slots.size ≤ (((2 : Int32) * p1)).toNatClampNeg) := own_inb S14 (n := 64) (by decide) (own_idx p1 32 hp (by decide)).2.2.1 ⟨by omega, by omega⟩
  obtain ⟨T14, h14, X14, e14, W14, st14⟩ := stJ X11 hx hZ e11 Ar14 (j := ((2 : Int32) * p1)) hin14 (g := (mkF m 58 #[rv r0, iv p1, rv r2, .val .null, .val (.long q4), .second, .val (.long (0 : Int64)), .second, iv (0 : Int32), iv (0 : Int32), iv p1, rv i2, rv t2] [(.long q4), (.int ((2 : Int32) * p1)), (.ref t2)])) rfl rfl (hb hby d16_58)
  have V14 : Arh Z h14 t2 kt .long (64 : Int32) [(((2 : Int32) * p1), (.long q4))] [] (.long (0 : Int64)) := Arh.push Ar14 q14 S14 M14 H14 G14 rfl W14 hin14
  have K14 : Keep h0 h14 [i2, t2, f2] := K9.wr W14 (Or.inl (List.mem_of_getElem? (i := 1) rfl))
  have N14 := Fr.snoc X14 N9 g_t2
  have pre15 : ∀ t, Steps p.tables e below (T14.setTop (mkF m 69 #[rv r0, iv p1, rv r2, .val .null, .val (.long q4), .second, .val (.long (0 : Int64)), .second, iv (0 : Int32), iv (0 : Int32), iv p1, rv i2, rv t2] [(.long (0 : Int64)), (.int (((2 : Int32) * p1) + (1 : Int32))), (.ref t2)])) t → Steps p.tables e below (s₁.setTop (entryFrame m #[(.ref r0), (.int p1), (.ref r2), .null, (.long q4), (.long (0 : Int64)), (.int (0 : Int32))] 13)) t := by
    intro t kt
    refine pre13 _ ?_
    show Steps p.tables e below (T11.setTop (mkF m 58 #[rv r0, iv p1, rv r2, .val .null, .val (.long q4), .second, .val (.long (0 : Int64)), .second, iv (0 : Int32), iv (0 : Int32), iv p1, rv i2, rv t2] [(.long q4), (.int ((2 : Int32) * p1)), (.ref t2)])) _
    refine st14 _ ?_
    show Steps p.tables e below (T14.setTop (mkF m 59 #[rv r0, iv p1, rv r2, .val .null, .val (.long q4), .second, .val (.long (0 : Int64)), .second, iv (0 : Int32), iv (0 : Int32), iv p1, rv i2, rv t2] [])) _
    refine XS.aload X14.here hx rfl (hb hby d16_59) rfl rfl ?_
    refine XS.iconst X14.here hx rfl (hb hby d16_61) ?_
    refine XS.iload X14.here hx rfl (hb hby d16_62) rfl ?_
    refine XS.imul X14.here hx rfl (hb hby d16_64) rfl ?_
    refine XS.iconst X14.here hx rfl (hb hby d16_65) ?_
    refine XS.iadd X14.here hx rfl (hb hby d16_66) rfl ?_
    show Steps p.tables e below (T14.setTop (mkF m 67 #[rv r0, iv p1, rv r2, .val .null, .val (.long q4), .second, .val (.long (0 : Int64)), .second, iv (0 : Int32), iv (0 : Int32), iv p1, rv i2, rv t2] [(.int (((2 : Int32) * p1) + (1 : Int32))), (.ref t2)])) _
    refine XS.lload X14.here hx rfl (hb hby d16_67) rfl ?_
    exact kt
  obtain ⟨cl16, Ar16, q16, S16, M16, H16, G16⟩ := id V14
  have hin16 : ¬ ((((2 : Int32) * p1) + (1 : Int32)) < 0 ∨ cl16.slots.size ≤ ((((2 : Int32) * p1) + (1 : Int32))).toNatClampNeg) := own_inb S16 (n := 64) (by decide) (own_idx p1 32 hp (by decide)).2.2.2 ⟨by omega, by omega⟩
  obtain ⟨T16, h16, X16, e16, W16, st16⟩ := stJ X14 hx hZ e14 Ar16 (j := (((2 : Int32) * p1) + (1 : Int32))) hin16 (g := (mkF m 69 #[rv r0, iv p1, rv r2, .val .null, .val (.long q4), .second, .val (.long (0 : Int64)), .second, iv (0 : Int32), iv (0 : Int32), iv p1, rv i2, rv t2] [(.long (0 : Int64)), (.int (((2 : Int32) * p1) + (1 : Int32))), (.ref t2)])) rfl rfl (hb hby d16_69)
  have V16 : Arh Z h16 t2 kt .long (64 : Int32) [((((2 : Int32) * p1) + (1 : Int32)), (.long (0 : Int64))), (((2 : Int32) * p1), (.long q4))] [] (.long (0 : Int64)) := Arh.push Ar16 q16 S16 M16 H16 G16 rfl W16 hin16
  have K16 : Keep h0 h16 [i2, t2, f2] := K14.wr W16 (Or.inl (List.mem_of_getElem? (i := 1) rfl))
  have N16 := Fr.snoc X16 N14 g_t2
  have pre17 : ∀ t, Steps p.tables e below (T16.setTop (mkF m 71 #[rv r0, iv p1, rv r2, .val .null, .val (.long q4), .second, .val (.long (0 : Int64)), .second, iv (0 : Int32), iv (0 : Int32), iv p1, rv i2, rv t2] [(.ref r0)])) t → Steps p.tables e below (s₁.setTop (entryFrame m #[(.ref r0), (.int p1), (.ref r2), .null, (.long q4), (.long (0 : Int64)), (.int (0 : Int32))] 13)) t := by
    intro t kt
    refine pre15 _ ?_
    show Steps p.tables e below (T14.setTop (mkF m 69 #[rv r0, iv p1, rv r2, .val .null, .val (.long q4), .second, .val (.long (0 : Int64)), .second, iv (0 : Int32), iv (0 : Int32), iv p1, rv i2, rv t2] [(.long (0 : Int64)), (.int (((2 : Int32) * p1) + (1 : Int32))), (.ref t2)])) _
    refine st16 _ ?_
    show Steps p.tables e below (T16.setTop (mkF m 70 #[rv r0, iv p1, rv r2, .val .null, .val (.long q4), .second, .val (.long (0 : Int64)), .second, iv (0 : Int32), iv (0 : Int32), iv p1, rv i2, rv t2] [])) _
    refine XS.aloadN X16.here hx rfl (hb hby d16_70) rfl rfl ?_
    exact kt
  obtain ⟨T18, X18, e18, st18⟩ := getF X16 hx hZ hown (host := "") (Or.inl (hw _ (List.mem_of_getElem? (i := 19) rfl))) Via.refl e16 ((((Sfl0.other W7 (Or.inl (Exa.ne ((((E_r0.wr W7).wr W9).wr W14).wr W16) ((((Sei20.wr W7).wr W9).wr W14).wr W16) (by decide)))).other W9 (Or.inl (Exa.ne ((((E_r0.wr W7).wr W9).wr W14).wr W16) ((((Sei20.wr W7).wr W9).wr W14).wr W16) (by decide)))).other W14 (Or.inl (Exa.ne ((((E_r0.wr W7).wr W9).wr W14).wr W16) ((((Set20.wr W7).wr W9).wr W14).wr W16) (by decide)))).other W16 (Or.inl (Exa.ne ((((E_r0.wr W7).wr W9).wr W14).wr W16) ((((Set20.wr W7).wr W9).wr W14).wr W16) (by decide)))) (g := (mkF m 71 #[rv r0, iv p1, rv r2, .val .null, .val (.long q4), .second, .val (.long (0 : Int64)), .second, iv (0 : Int32), iv (0 : Int32), iv p1, rv i2, rv t2] [(.ref r0)])) rfl rfl (hb hby d16_71)
  obtain ⟨cl19, Ar19, q19, S19, M19, H19, G19⟩ := id ((((SvF10.other W7 (Exa.ne ((((SeF10.wr W7).wr W9).wr W14).wr W16) ((((Sei20.wr W7).wr W9).wr W14).wr W16) (by decide))).other W9 (Exa.ne ((((SeF10.wr W7).wr W9).wr W14).wr W16) ((((Sei20.wr W7).wr W9).wr W14).wr W16) (by decide))).other W14 (Exa.ne ((((SeF10.wr W7).wr W9).wr W14).wr W16) ((((Set20.wr W7).wr W9).wr W14).wr W16) (by decide))).other W16 (Exa.ne ((((SeF10.wr W7).wr W9).wr W14).wr W16) ((((Set20.wr W7).wr W9).wr W14).wr W16) (by decide)))
  have hin19 : ¬ ((0 : Int32) < 0 ∨ cl19.slots.size ≤ ((0 : Int32)).toNatClampNeg) := inb_of S19 ⟨by decide, by decide⟩
  have hat19 : cl19.slots[((0 : Int32)).toNatClampNeg]? = some (.ref f2) := H19.at hin19 rfl
  have pre20 : ∀ t, Steps p.tables e below (T18.setTop (mkF m 81 #[rv r0, iv p1, rv r2, .val .null, .val (.long q4), .second, .val (.long (0 : Int64)), .second, iv (0 : Int32), iv (0 : Int32), iv p1, rv i2, rv t2] [(.int (0 : Int32)), (.int p1), (.ref f2)])) t → Steps p.tables e below (s₁.setTop (entryFrame m #[(.ref r0), (.int p1), (.ref r2), .null, (.long q4), (.long (0 : Int64)), (.int (0 : Int32))] 13)) t := by
    intro t kt
    refine pre17 _ ?_
    show Steps p.tables e below (T16.setTop (mkF m 71 #[rv r0, iv p1, rv r2, .val .null, .val (.long q4), .second, .val (.long (0 : Int64)), .second, iv (0 : Int32), iv (0 : Int32), iv p1, rv i2, rv t2] [(.ref r0)])) _
    refine st18 _ ?_
    show Steps p.tables e below (T18.setTop (mkF m 74 #[rv r0, iv p1, rv r2, .val .null, .val (.long q4), .second, .val (.long (0 : Int64)), .second, iv (0 : Int32), iv (0 : Int32), iv p1, rv i2, rv t2] [(.ref F1)])) _
    refine XS.iload X18.here hx rfl (hb hby d16_74) rfl ?_
    refine X18.aaload hx (j := (0 : Int32)) (v := (.ref f2)) (by rw [e18]; exact Ar19.1) (State.isArrayOf_alike hZ.alike Ar19.2.1) rfl Ar19.2.2 hin19 hat19 (g := (mkF m 76 #[rv r0, iv p1, rv r2, .val .null, .val (.long q4), .second, .val (.long (0 : Int64)), .second, iv (0 : Int32), iv (0 : Int32), iv p1, rv i2, rv t2] [(.int (0 : Int32)), (.ref F1)])) rfl rfl (hb hby d16_76) _ ?_
    show Steps p.tables e below (T18.setTop (mkF m 77 #[rv r0, iv p1, rv r2, .val .null, .val (.long q4), .second, .val (.long (0 : Int64)), .second, iv (0 : Int32), iv (0 : Int32), iv p1, rv i2, rv t2] [(.ref f2)])) _
    refine XS.iload X18.here hx rfl (hb hby d16_77) rfl ?_
    refine XS.iload X18.here hx rfl (hb hby d16_79) rfl ?_
    exact kt
  obtain ⟨cl21, Ar21, q21, S21, M21, H21, G21⟩ := id ((((Svf20.other W7 (Exa.ne ((((Sef20.wr W7).wr W9).wr W14).wr W16) ((((Sei20.wr W7).wr W9).wr W14).wr W16) (by decide))).other W9 (Exa.ne ((((Sef20.wr W7).wr W9).wr W14).wr W16) ((((Sei20.wr W7).wr W9).wr W14).wr W16) (by decide))).other W14 (Exa.ne ((((Sef20.wr W7).wr W9).wr W14).wr W16) ((((Set20.wr W7).wr W9).wr W14).wr W16) (by decide))).other W16 (Exa.ne ((((Sef20.wr W7).wr W9).wr W14).wr W16) ((((Set20.wr W7).wr W9).wr W14).wr W16) (by decide)))
  have hin21 : ¬ (p1 < 0 ∨ cl21.slots.size ≤ (p1).toNatClampNeg) := own_inb S21 (n := 32) (by decide) rfl hp
  obtain ⟨T21, h21, X21, e21, W21, st21⟩ := stB X18 hx hZ e18 Ar21 (j := p1) hin21 (g := (mkF m 81 #[rv r0, iv p1, rv r2, .val .null, .val (.long q4), .second, .val (.long (0 : Int64)), .second, iv (0 : Int32), iv (0 : Int32), iv p1, rv i2, rv t2] [(.int (0 : Int32)), (.int p1), (.ref f2)])) rfl rfl (hb hby d16_81)
  have nn21 : nar .byte (0 : Int32) = (0 : Int32) := (by decide)
  rw [nn21] at W21
  have V21 : Arh Z h21 f2 kf .byte (32 : Int32) [(p1, (.int (0 : Int32)))] [] (.int (0 : Int32)) := Arh.push Ar21 q21 S21 M21 H21 G21 (own_fb nn21) W21 hin21
  have K21 : Keep h0 h21 [i2, t2, f2] := K16.wr W21 (Or.inl (List.mem_of_getElem? (i := 2) rfl))
  have N21 := Fr.snoc X21 N16 g_f2
  have pre22 : ∀ t, Steps p.tables e below (T21.setTop (mkF m 82 #[rv r0, iv p1, rv r2, .val .null, .val (.long q4), .second, .val (.long (0 : Int64)), .second, iv (0 : Int32), iv (0 : Int32), iv p1, rv i2, rv t2] [])) t → Steps p.tables e below (s₁.setTop (entryFrame m #[(.ref r0), (.int p1), (.ref r2), .null, (.long q4), (.long (0 : Int64)), (.int (0 : Int32))] 13)) t := by
    intro t kt
    refine pre20 _ ?_
    show Steps p.tables e below (T18.setTop (mkF m 81 #[rv r0, iv p1, rv r2, .val .null, .val (.long q4), .second, .val (.long (0 : Int64)), .second, iv (0 : Int32), iv (0 : Int32), iv p1, rv i2, rv t2] [(.int (0 : Int32)), (.int p1), (.ref f2)])) _
    refine st21 _ ?_
    exact kt
  obtain ⟨fs, hr, hrun, hended, hW, hsame⟩ := X21.leave (v := none) (fun _ => rfl)
  refine ⟨_, _, pre22 _ ?_, hrun, hended, _, _, rfl, ?_, ⟨_, rfl⟩, hW, hsame.mono (by decide) (by decide)⟩
  · show Steps p.tables e below (T21.setTop (mkF m 82 #[rv r0, iv p1, rv r2, .val .null, .val (.long q4), .second, .val (.long (0 : Int64)), .second, iv (0 : Int32), iv (0 : Int32), iv p1, rv i2, rv t2] [])) _
    exact X21.returnOut hx Bd.returns (hb hby d16_82) hr
  · show Q16c32 Z r0 p1 r2 q4 I1 T1 F1 i2 t2 f2 kI kT kF ki kt kf h0 n0 _ T21.heap _
    rw [e21]
    exact ⟨rfl, N21, K21, (((V9.other W14 (Exa.ne (((((Sei20.wr W7).wr W9).wr W14).wr W16).wr W21) (((((Set20.wr W7).wr W9).wr W14).wr W16).wr W21) (by decide))).other W16 (Exa.ne (((((Sei20.wr W7).wr W9).wr W14).wr W16).wr W21) (((((Set20.wr W7).wr W9).wr W14).wr W16).wr W21) (by decide))).other W21 (Exa.ne (((((Sei20.wr W7).wr W9).wr W14).wr W16).wr W21) (((((Sef20.wr W7).wr W9).wr W14).wr W16).wr W21) (by decide))), (V16.other W21 (Exa.ne (((((Set20.wr W7).wr W9).wr W14).wr W16).wr W21) (((((Sef20.wr W7).wr W9).wr W14).wr W16).wr W21) (by decide)))⟩

theorem ef_16c64 (m : MethodId) (x0 : Addr) (x1 : Int32) (x2 : Addr) (x4 : Int64) (x5 : Int64) (x6 : Int32) : entryFrame m #[(.ref x0), (.int x1), (.ref x2), .null, (.long x4), (.long x5), (.int x6)] 13 = mkF m 0 #[.val (.ref x0), .val (.int x1), .val (.ref x2), .val .null, .val (.long x4), .second, .val (.long x5), .second, .val (.int x6), .unset, .unset, .unset, .unset] [] := by first | (simp [entryFrame, mkF, argsToLocals, Value.category]; done) | rfl
def Q16c64 (Z : State) (r0 : Addr) (p1 : Int32) (r2 : Addr) (q4 : Int64) (I1 : Addr) (T1 : Addr) (F1 : Addr) (i2 : Addr) (t2 : Addr) (f2 : Addr) (kI : ClassId) (kT : ClassId) (kF : ClassId) (ki : ClassId) (kt : ClassId) (kf : ClassId) (h0 : Heap) (n0 : Nat) (v : Option Value) (h : Heap) (L : List Loc) : Prop := v = none ∧ Fr n0 L ∧ Keep h0 h [i2, t2, f2] ∧ Arh Z h i2 ki (.object "java/lang/Object") (128 : Int32) [((((2 : Int32) * p1) + (1 : Int32)), .null), (((2 : Int32) * p1), (.ref r2))] [] .null ∧ Arh Z h t2 kt .long (128 : Int32) [((((2 : Int32) * p1) + (1 : Int32)), (.long (0 : Int64))), (((2 : Int32) * p1), (.long q4))] [] (.long (0 : Int64))
set_option maxRecDepth 65536 in
set_option maxHeartbeats 40000000 in
theorem rm16c64 (l : Launch) (Z : State) (a0 : Array Value) (hw : ∀ d ∈ tables_1, d.before a0 Z = true) (ws : List Jvm.Cond) (r0 : Addr) (p1 : Int32) (r2 : Addr) (q4 : Int64) (I1 : Addr) (T1 : Addr) (F1 : Addr) (i2 : Addr) (t2 : Addr) (f2 : Addr) (kI : ClassId) (kT : ClassId) (kF : ClassId) (ki : ClassId) (kt : ClassId) (kf : ClassId) (h0 : Heap) (n0 : Nat) (Z0 : n0 ≤ h0.size) (SL : own_Sl Z h0 r0 I1 T1 F1 i2 t2 f2 kI kT kF ki kt kf (64 : Int32) (128 : Int32)) (E_r0 : Exa Z h0 r0 "com/example/loopsmith/loopsmith/queue/Slots") (g_r0 : n0 ≤ r0) (g_I1 : n0 ≤ I1) (g_T1 : n0 ≤ T1) (g_F1 : n0 ≤ F1) (g_i2 : n0 ≤ i2) (g_t2 : n0 ≤ t2) (g_f2 : n0 ≤ f2) (E_r2 : Exa Z h0 r2 "java/lang/Integer") (O0 : Old Z n0 h0) (S_bb : Sta Z Z.heap "com/example/loopsmith/loopsmith/queue/Slots" "BLOCK_BITS" "I" (.int (10 : Int32))) (hp : 0 ≤ p1.toInt ∧ p1.toInt < 64) :
    MetFree l (⟨"com/example/loopsmith/loopsmith/queue/Slots", "set", "(ILjava/lang/Object;Lcom/example/loopsmith/loopsmith/queue/Message$Target;JJB)V"⟩ : MethodName) (head1 (Jvm.Cond.code (⟨"com/example/loopsmith/loopsmith/queue/Slots", "set", "(ILjava/lang/Object;Lcom/example/loopsmith/loopsmith/queue/Message$Target;JJB)V"⟩ : MethodName) prog_42_method_11_code 13 none :: ws) ({ frames := 0, cells := 0, slots := 0, locals := 0 } : Room)) (fun a U => a = #[(.ref r0), (.int p1), (.ref r2), .null, (.long q4), (.long (0 : Int64)), (.int (0 : Int32))] ∧ Z.Warmed39 U.vm ∧ U.heap = h0) (fun _ _ _ _ _ => True) (fun _ U o U' => ∃ v L, o = .returned v ∧ Q16c64 Z r0 p1 r2 q4 I1 T1 F1 i2 t2 f2 kI kT kF ki kt kf h0 n0 v U'.heap L ∧ FrameEnd U o U' L ({ frames := 0, cells := 0, slots := 0, locals := 0 } : Room).cells ({ frames := 0, cells := 0, slots := 0, locals := 0 } : Room).slots) := by
  refine MetFree.of_bodySF (plainFor_of_name pn4) hisR ?_
  intro p e s m args below meth c s₁ Bd hml0 hP hK
  obtain ⟨rfl, hZ, hh⟩ := hP
  have hx := Bd.exec
  have hby := Bd.bytes
  have hml : c.maxLocals = 13 := hml0
  have hown : s.vm.findClass "com/example/loopsmith/loopsmith/queue/Slots" = some m.cls := findClass_of_methodNamed Bd.named
  have hnm := (name_of_methodNamed Bd.named Bd.method).1
  have X0 : Stand p l e ({ frames := 0, cells := 0, slots := 0, locals := 0 } : Room) s m #[(.ref r0), (.int p1), (.ref r2), .null, (.long q4), (.long (0 : Int64)), (.int (0 : Int32))] below meth c s₁ [] 0 0 := Stand.of_body Bd
  have e0 : s₁.heap = h0 := by rw [← hh, Bd.state]; rfl
  have N0 := Fr.nil n0
  have pre0 : ∀ t, Steps p.tables e below (s₁.setTop (mkF m 0 #[rv r0, iv p1, rv r2, .val .null, .val (.long q4), .second, .val (.long (0 : Int64)), .second, iv (0 : Int32), .unset, .unset, .unset, .unset] [])) t → Steps p.tables e below (s₁.setTop (entryFrame m #[(.ref r0), (.int p1), (.ref r2), .null, (.long q4), (.long (0 : Int64)), (.int (0 : Int32))] 13)) t := fun t k => castTop (ef_16c64 m r0 p1 r2 q4 (0 : Int64) (0 : Int32)) k
  obtain ⟨Sit0, Sti0, Sfl0, ⟨wb0, Sbl0⟩, Sca0, SeI10, SeT10, SeF10, Sei20, Set20, Sef20, SvI10, SvT10, SvF10, Svi20, Svt20, Svf20, SoI10, SoT10, SoF10, Soi20⟩ := id SL
  have pre1 : ∀ t, Steps p.tables e below (s₁.setTop (mkF m 1 #[rv r0, iv p1, rv r2, .val .null, .val (.long q4), .second, .val (.long (0 : Int64)), .second, iv (0 : Int32), .unset, .unset, .unset, .unset] [(.int p1)])) t → Steps p.tables e below (s₁.setTop (entryFrame m #[(.ref r0), (.int p1), (.ref r2), .null, (.long q4), (.long (0 : Int64)), (.int (0 : Int32))] 13)) t := by
    intro t kt
    refine pre0 _ ?_
    show Steps p.tables e below (s₁.setTop (mkF m 0 #[rv r0, iv p1, rv r2, .val .null, .val (.long q4), .second, .val (.long (0 : Int64)), .second, iv (0 : Int32), .unset, .unset, .unset, .unset] [])) _
    refine XS.iloadN X0.here hx rfl (hb hby d16_0) rfl ?_
    exact kt
  obtain ⟨T2, X2, e2, st2⟩ := getS2 X0 hx hZ hown (host := "") (Or.inl (hw _ (List.mem_of_getElem? (i := 113) rfl))) Via.refl e0 (S_bb.ext (O0.keep (Keep.refl h0 [i2, t2, f2]) (allS g_i2 (allS g_t2 (allS g_f2 all0)))).2) (g := (mkF m 1 #[rv r0, iv p1, rv r2, .val .null, .val (.long q4), .second, .val (.long (0 : Int64)), .second, iv (0 : Int32), .unset, .unset, .unset, .unset] [(.int p1)])) rfl (hb hby d16_1)
  have pre3 : ∀ t, Steps p.tables e below (T2.setTop (mkF m 15 #[rv r0, iv p1, rv r2, .val .null, .val (.long q4), .second, .val (.long (0 : Int64)), .second, iv (0 : Int32), iv (0 : Int32), iv p1, .unset, .unset] [(.ref r0)])) t → Steps p.tables e below (s₁.setTop (entryFrame m #[(.ref r0), (.int p1), (.ref r2), .null, (.long q4), (.long (0 : Int64)), (.int (0 : Int32))] 13)) t := by
    intro t kt
    refine pre1 _ ?_
    show Steps p.tables e below (s₁.setTop (mkF m 1 #[rv r0, iv p1, rv r2, .val .null, .val (.long q4), .second, .val (.long (0 : Int64)), .second, iv (0 : Int32), .unset, .unset, .unset, .unset] [(.int p1)])) _
    refine st2 _ ?_
    show Steps p.tables e below (T2.setTop (mkF m 4 #[rv r0, iv p1, rv r2, .val .null, .val (.long q4), .second, .val (.long (0 : Int64)), .second, iv (0 : Int32), .unset, .unset, .unset, .unset] [(.int (10 : Int32)), (.int p1)])) _
    refine XS.iushr X2.here hx rfl (hb hby d16_4) rfl ?_
    show Steps p.tables e below (T2.setTop (mkF m 5 #[rv r0, iv p1, rv r2, .val .null, .val (.long q4), .second, .val (.long (0 : Int64)), .second, iv (0 : Int32), .unset, .unset, .unset, .unset] [(.int ((p1.toUInt32 >>> ((10 : Int32) &&& 31).toUInt32).toInt32))])) _
    rw [show ((p1.toUInt32 >>> ((10 : Int32) &&& 31).toUInt32).toInt32) = (0 : Int32) from (own_idx p1 64 hp (by decide)).1]
    show Steps p.tables e below (T2.setTop (mkF m 5 #[rv r0, iv p1, rv r2, .val .null, .val (.long q4), .second, .val (.long (0 : Int64)), .second, iv (0 : Int32), .unset, .unset, .unset, .unset] [(.int (0 : Int32))])) _
    refine XS.istore X2.here hx rfl (hb hby d16_5) rfl (l' := #[rv r0, iv p1, rv r2, .val .null, .val (.long q4), .second, .val (.long (0 : Int64)), .second, iv (0 : Int32), iv (0 : Int32), .unset, .unset, .unset]) rfl ?_
    refine XS.iloadN X2.here hx rfl (hb hby d16_7) rfl ?_
    refine XS.sipush X2.here hx rfl (hb hby d16_8) ?_
    refine XS.iand X2.here hx rfl (hb hby d16_11) rfl ?_
    show Steps p.tables e below (T2.setTop (mkF m 12 #[rv r0, iv p1, rv r2, .val .null, .val (.long q4), .second, .val (.long (0 : Int64)), .second, iv (0 : Int32), iv (0 : Int32), .unset, .unset, .unset] [(.int (p1 &&& (1023 : Int32)))])) _
    rw [show (p1 &&& (1023 : Int32)) = p1 from (own_idx p1 64 hp (by decide)).2.1]
    show Steps p.tables e below (T2.setTop (mkF m 12 #[rv r0, iv p1, rv r2, .val .null, .val (.long q4), .second, .val (.long (0 : Int64)), .second, iv (0 : Int32), iv (0 : Int32), .unset, .unset, .unset] [(.int p1)])) _
    refine XS.istore X2.here hx rfl (hb hby d16_12) rfl (l' := #[rv r0, iv p1, rv r2, .val .null, .val (.long q4), .second, .val (.long (0 : Int64)), .second, iv (0 : Int32), iv (0 : Int32), iv p1, .unset, .unset]) rfl ?_
    refine XS.aloadN X2.here hx rfl (hb hby d16_14) rfl rfl ?_
    exact kt
  obtain ⟨T4, X4, e4, st4⟩ := getF X2 hx hZ hown (host := "") (Or.inl (hw _ (List.mem_of_getElem? (i := 11) rfl))) Via.refl e2 Sit0 (g := (mkF m 15 #[rv r0, iv p1, rv r2, .val .null, .val (.long q4), .second, .val (.long (0 : Int64)), .second, iv (0 : Int32), iv (0 : Int32), iv p1, .unset, .unset] [(.ref r0)])) rfl rfl (hb hby d16_15)
  obtain ⟨cl5, Ar5, q5, S5, M5, H5, G5⟩ := id SvI10
  have hin5 : ¬ ((0 : Int32) < 0 ∨ cl5.slots.size ≤ ((0 : Int32)).toNatClampNeg) := inb_of S5 ⟨by decide, by decide⟩
  have hat5 : cl5.slots[((0 : Int32)).toNatClampNeg]? = some (.ref i2) := H5.at hin5 rfl
  have pre6 : ∀ t, Steps p.tables e below (T4.setTop (mkF m 30 #[rv r0, iv p1, rv r2, .val .null, .val (.long q4), .second, .val (.long (0 : Int64)), .second, iv (0 : Int32), iv (0 : Int32), iv p1, rv i2, .unset] [(.ref r2), (.int ((2 : Int32) * p1)), (.ref i2)])) t → Steps p.tables e below (s₁.setTop (entryFrame m #[(.ref r0), (.int p1), (.ref r2), .null, (.long q4), (.long (0 : Int64)), (.int (0 : Int32))] 13)) t := by
    intro t kt
    refine pre3 _ ?_
    show Steps p.tables e below (T2.setTop (mkF m 15 #[rv r0, iv p1, rv r2, .val .null, .val (.long q4), .second, .val (.long (0 : Int64)), .second, iv (0 : Int32), iv (0 : Int32), iv p1, .unset, .unset] [(.ref r0)])) _
    refine st4 _ ?_
    show Steps p.tables e below (T4.setTop (mkF m 18 #[rv r0, iv p1, rv r2, .val .null, .val (.long q4), .second, .val (.long (0 : Int64)), .second, iv (0 : Int32), iv (0 : Int32), iv p1, .unset, .unset] [(.ref I1)])) _
    refine XS.iload X4.here hx rfl (hb hby d16_18) rfl ?_
    refine X4.aaload hx (j := (0 : Int32)) (v := (.ref i2)) (by rw [e4]; exact Ar5.1) (State.isArrayOf_alike hZ.alike Ar5.2.1) rfl Ar5.2.2 hin5 hat5 (g := (mkF m 20 #[rv r0, iv p1, rv r2, .val .null, .val (.long q4), .second, .val (.long (0 : Int64)), .second, iv (0 : Int32), iv (0 : Int32), iv p1, .unset, .unset] [(.int (0 : Int32)), (.ref I1)])) rfl rfl (hb hby d16_20) _ ?_
    show Steps p.tables e below (T4.setTop (mkF m 21 #[rv r0, iv p1, rv r2, .val .null, .val (.long q4), .second, .val (.long (0 : Int64)), .second, iv (0 : Int32), iv (0 : Int32), iv p1, .unset, .unset] [(.ref i2)])) _
    refine XS.astore X4.here hx rfl (hb hby d16_21) rfl rfl (l' := #[rv r0, iv p1, rv r2, .val .null, .val (.long q4), .second, .val (.long (0 : Int64)), .second, iv (0 : Int32), iv (0 : Int32), iv p1, rv i2, .unset]) rfl ?_
    refine XS.aload X4.here hx rfl (hb hby d16_23) rfl rfl ?_
    refine XS.iconst X4.here hx rfl (hb hby d16_25) ?_
    refine XS.iload X4.here hx rfl (hb hby d16_26) rfl ?_
    refine XS.imul X4.here hx rfl (hb hby d16_28) rfl ?_
    refine XS.aloadN X4.here hx rfl (hb hby d16_29) rfl rfl ?_
    exact kt
  obtain ⟨cl7, Ar7, q7, S7, M7, H7, G7⟩ := id Svi20
  have hin7 : ¬ (((2 : Int32) * p1) < 0 ∨ cl7.slots.size ≤ (((2 : Int32) * p1)).toNatClampNeg) := own_inb S7 (n := 128) (by decide) (own_idx p1 64 hp (by decide)).2.2.1 ⟨by omega, by omega⟩
  obtain ⟨T7, h7, X7, e7, W7, st7⟩ := stR X4 hx hZ e4 Ar7 (j := ((2 : Int32) * p1)) hin7 rfl (Sto.ofV Ar7 q7 Soi20 (Ins.of_exa E_r2 (hw _ (List.mem_of_getElem? (i := 115) rfl)))) (g := (mkF m 30 #[rv r0, iv p1, rv r2, .val .null, .val (.long q4), .second, .val (.long (0 : Int64)), .second, iv (0 : Int32), iv (0 : Int32), iv p1, rv i2, .unset] [(.ref r2), (.int ((2 : Int32) * p1)), (.ref i2)])) rfl rfl (hb hby d16_30)
  have V7 : Arh Z h7 i2 ki (.object "java/lang/Object") (128 : Int32) [(((2 : Int32) * p1), (.ref r2))] [] .null := Arh.push Ar7 q7 S7 M7 H7 G7 rfl W7 hin7
  have K7 : Keep h0 h7 [i2, t2, f2] := (Keep.refl h0 [i2, t2, f2]).wr W7 (Or.inl (List.mem_of_getElem? (i := 0) rfl))
  have N7 := Fr.snoc X7 N0 g_i2
  have pre8 : ∀ t, Steps p.tables e below (T7.setTop (mkF m 40 #[rv r0, iv p1, rv r2, .val .null, .val (.long q4), .second, .val (.long (0 : Int64)), .second, iv (0 : Int32), iv (0 : Int32), iv p1, rv i2, .unset] [.null, (.int (((2 : Int32) * p1) + (1 : Int32))), (.ref i2)])) t → Steps p.tables e below (s₁.setTop (entryFrame m #[(.ref r0), (.int p1), (.ref r2), .null, (.long q4), (.long (0 : Int64)), (.int (0 : Int32))] 13)) t := by
    intro t kt
    refine pre6 _ ?_
    show Steps p.tables e below (T4.setTop (mkF m 30 #[rv r0, iv p1, rv r2, .val .null, .val (.long q4), .second, .val (.long (0 : Int64)), .second, iv (0 : Int32), iv (0 : Int32), iv p1, rv i2, .unset] [(.ref r2), (.int ((2 : Int32) * p1)), (.ref i2)])) _
    refine st7 _ ?_
    show Steps p.tables e below (T7.setTop (mkF m 31 #[rv r0, iv p1, rv r2, .val .null, .val (.long q4), .second, .val (.long (0 : Int64)), .second, iv (0 : Int32), iv (0 : Int32), iv p1, rv i2, .unset] [])) _
    refine XS.aload X7.here hx rfl (hb hby d16_31) rfl rfl ?_
    refine XS.iconst X7.here hx rfl (hb hby d16_33) ?_
    refine XS.iload X7.here hx rfl (hb hby d16_34) rfl ?_
    refine XS.imul X7.here hx rfl (hb hby d16_36) rfl ?_
    refine XS.iconst X7.here hx rfl (hb hby d16_37) ?_
    refine XS.iadd X7.here hx rfl (hb hby d16_38) rfl ?_
    show Steps p.tables e below (T7.setTop (mkF m 39 #[rv r0, iv p1, rv r2, .val .null, .val (.long q4), .second, .val (.long (0 : Int64)), .second, iv (0 : Int32), iv (0 : Int32), iv p1, rv i2, .unset] [(.int (((2 : Int32) * p1) + (1 : Int32))), (.ref i2)])) _
    refine XS.aloadN X7.here hx rfl (hb hby d16_39) rfl rfl ?_
    exact kt
  obtain ⟨cl9, Ar9, q9, S9, M9, H9, G9⟩ := id V7
  have hin9 : ¬ ((((2 : Int32) * p1) + (1 : Int32)) < 0 ∨ cl9.slots.size ≤ ((((2 : Int32) * p1) + (1 : Int32))).toNatClampNeg) := own_inb S9 (n := 128) (by decide) (own_idx p1 64 hp (by decide)).2.2.2 ⟨by omega, by omega⟩
  obtain ⟨T9, h9, X9, e9, W9, st9⟩ := stR X7 hx hZ e7 Ar9 (j := (((2 : Int32) * p1) + (1 : Int32))) hin9 rfl (Or.inl rfl) (g := (mkF m 40 #[rv r0, iv p1, rv r2, .val .null, .val (.long q4), .second, .val (.long (0 : Int64)), .second, iv (0 : Int32), iv (0 : Int32), iv p1, rv i2, .unset] [.null, (.int (((2 : Int32) * p1) + (1 : Int32))), (.ref i2)])) rfl rfl (hb hby d16_40)
  have V9 : Arh Z h9 i2 ki (.object "java/lang/Object") (128 : Int32) [((((2 : Int32) * p1) + (1 : Int32)), .null), (((2 : Int32) * p1), (.ref r2))] [] .null := Arh.push Ar9 q9 S9 M9 H9 G9 rfl W9 hin9
  have K9 : Keep h0 h9 [i2, t2, f2] := K7.wr W9 (Or.inl (List.mem_of_getElem? (i := 0) rfl))
  have N9 := Fr.snoc X9 N7 g_i2
  have pre10 : ∀ t, Steps p.tables e below (T9.setTop (mkF m 42 #[rv r0, iv p1, rv r2, .val .null, .val (.long q4), .second, .val (.long (0 : Int64)), .second, iv (0 : Int32), iv (0 : Int32), iv p1, rv i2, .unset] [(.ref r0)])) t → Steps p.tables e below (s₁.setTop (entryFrame m #[(.ref r0), (.int p1), (.ref r2), .null, (.long q4), (.long (0 : Int64)), (.int (0 : Int32))] 13)) t := by
    intro t kt
    refine pre8 _ ?_
    show Steps p.tables e below (T7.setTop (mkF m 40 #[rv r0, iv p1, rv r2, .val .null, .val (.long q4), .second, .val (.long (0 : Int64)), .second, iv (0 : Int32), iv (0 : Int32), iv p1, rv i2, .unset] [.null, (.int (((2 : Int32) * p1) + (1 : Int32))), (.ref i2)])) _
    refine st9 _ ?_
    show Steps p.tables e below (T9.setTop (mkF m 41 #[rv r0, iv p1, rv r2, .val .null, .val (.long q4), .second, .val (.long (0 : Int64)), .second, iv (0 : Int32), iv (0 : Int32), iv p1, rv i2, .unset] [])) _
    refine XS.aloadN X9.here hx rfl (hb hby d16_41) rfl rfl ?_
    exact kt
  obtain ⟨T11, X11, e11, st11⟩ := getF X9 hx hZ hown (host := "") (Or.inl (hw _ (List.mem_of_getElem? (i := 15) rfl))) Via.refl e9 ((Sti0.other W7 (Or.inl (Exa.ne ((E_r0.wr W7).wr W9) ((Sei20.wr W7).wr W9) (by decide)))).other W9 (Or.inl (Exa.ne ((E_r0.wr W7).wr W9) ((Sei20.wr W7).wr W9) (by decide)))) (g := (mkF m 42 #[rv r0, iv p1, rv r2, .val .null, .val (.long q4), .second, .val (.long (0 : Int64)), .second, iv (0 : Int32), iv (0 : Int32), iv p1, rv i2, .unset] [(.ref r0)])) rfl rfl (hb hby d16_42)
  obtain ⟨cl12, Ar12, q12, S12, M12, H12, G12⟩ := id ((SvT10.other W7 (Exa.ne ((SeT10.wr W7).wr W9) ((Sei20.wr W7).wr W9) (by decide))).other W9 (Exa.ne ((SeT10.wr W7).wr W9) ((Sei20.wr W7).wr W9) (by decide)))
  have hin12 : ¬ ((0 : Int32) < 0 ∨ cl12.slots.size ≤ ((0 : Int32)).toNatClampNeg) := inb_of S12 ⟨by decide, by decide⟩
  have hat12 : cl12.slots[((0 : Int32)).toNatClampNeg]? = some (.ref t2) := H12.at hin12 rfl
  have pre13 : ∀ t, Steps p.tables e below (T11.setTop (mkF m 58 #[rv r0, iv p1, rv r2, .val .null, .val (.long q4), .second, .val (.long (0 : Int64)), .second, iv (0 : Int32), iv (0 : Int32), iv p1, rv i2, rv t2] [(.long q4), (.int ((2 : Int32) * p1)), (.ref t2)])) t → Steps p.tables e below (s₁.setTop (entryFrame m #[(.ref r0), (.int p1), (.ref r2), .null, (.long q4), (.long (0 : Int64)), (.int (0 : Int32))] 13)) t := by
    intro t kt
    refine pre10 _ ?_
    show Steps p.tables e below (T9.setTop (mkF m 42 #[rv r0, iv p1, rv r2, .val .null, .val (.long q4), .second, .val (.long (0 : Int64)), .second, iv (0 : Int32), iv (0 : Int32), iv p1, rv i2, .unset] [(.ref r0)])) _
    refine st11 _ ?_
    show Steps p.tables e below (T11.setTop (mkF m 45 #[rv r0, iv p1, rv r2, .val .null, .val (.long q4), .second, .val (.long (0 : Int64)), .second, iv (0 : Int32), iv (0 : Int32), iv p1, rv i2, .unset] [(.ref T1)])) _
    refine XS.iload X11.here hx rfl (hb hby d16_45) rfl ?_
    refine X11.aaload hx (j := (0 : Int32)) (v := (.ref t2)) (by rw [e11]; exact Ar12.1) (State.isArrayOf_alike hZ.alike Ar12.2.1) rfl Ar12.2.2 hin12 hat12 (g := (mkF m 47 #[rv r0, iv p1, rv r2, .val .null, .val (.long q4), .second, .val (.long (0 : Int64)), .second, iv (0 : Int32), iv (0 : Int32), iv p1, rv i2, .unset] [(.int (0 : Int32)), (.ref T1)])) rfl rfl (hb hby d16_47) _ ?_
    show Steps p.tables e below (T11.setTop (mkF m 48 #[rv r0, iv p1, rv r2, .val .null, .val (.long q4), .second, .val (.long (0 : Int64)), .second, iv (0 : Int32), iv (0 : Int32), iv p1, rv i2, .unset] [(.ref t2)])) _
    refine XS.astore X11.here hx rfl (hb hby d16_48) rfl rfl (l' := #[rv r0, iv p1, rv r2, .val .null, .val (.long q4), .second, .val (.long (0 : Int64)), .second, iv (0 : Int32), iv (0 : Int32), iv p1, rv i2, rv t2]) rfl ?_
    refine XS.aload X11.here hx rfl (hb hby d16_50) rfl rfl ?_
    refine XS.iconst X11.here hx rfl (hb hby d16_52) ?_
    refine XS.iload X11.here hx rfl (hb hby d16_53) rfl ?_
    refine XS.imul X11.here hx rfl (hb hby d16_55) rfl ?_
    refine XS.lload X11.here hx rfl (hb hby d16_56) rfl ?_
    exact kt
  obtain ⟨cl14, Ar14, q14, S14, M14, H14, G14⟩ := id ((Svt20.other W7 (Exa.ne ((Set20.wr W7).wr W9) ((Sei20.wr W7).wr W9) (by decide))).other W9 (Exa.ne ((Set20.wr W7).wr W9) ((Sei20.wr W7).wr W9) (by decide)))
  have hin14 : ¬ (((2 : Int32) * p1) < 0 ∨ cl14.slots.size ≤ (((2 : Int32) * p1)).toNatClampNeg) := own_inb S14 (n := 128) (by decide) (own_idx p1 64 hp (by decide)).2.2.1 ⟨by omega, by omega⟩
  obtain ⟨T14, h14, X14, e14, W14, st14⟩ := stJ X11 hx hZ e11 Ar14 (j := ((2 : Int32) * p1)) hin14 (g := (mkF m 58 #[rv r0, iv p1, rv r2, .val .null, .val (.long q4), .second, .val (.long (0 : Int64)), .second, iv (0 : Int32), iv (0 : Int32), iv p1, rv i2, rv t2] [(.long q4), (.int ((2 : Int32) * p1)), (.ref t2)])) rfl rfl (hb hby d16_58)
  have V14 : Arh Z h14 t2 kt .long (128 : Int32) [(((2 : Int32) * p1), (.long q4))] [] (.long (0 : Int64)) := Arh.push Ar14 q14 S14 M14 H14 G14 rfl W14 hin14
  have K14 : Keep h0 h14 [i2, t2, f2] := K9.wr W14 (Or.inl (List.mem_of_getElem? (i := 1) rfl))
  have N14 := Fr.snoc X14 N9 g_t2
  have pre15 : ∀ t, Steps p.tables e below (T14.setTop (mkF m 69 #[rv r0, iv p1, rv r2, .val .null, .val (.long q4), .second, .val (.long (0 : Int64)), .second, iv (0 : Int32), iv (0 : Int32), iv p1, rv i2, rv t2] [(.long (0 : Int64)), (.int (((2 : Int32) * p1) + (1 : Int32))), (.ref t2)])) t → Steps p.tables e below (s₁.setTop (entryFrame m #[(.ref r0), (.int p1), (.ref r2), .null, (.long q4), (.long (0 : Int64)), (.int (0 : Int32))] 13)) t := by
    intro t kt
    refine pre13 _ ?_
    show Steps p.tables e below (T11.setTop (mkF m 58 #[rv r0, iv p1, rv r2, .val .null, .val (.long q4), .second, .val (.long (0 : Int64)), .second, iv (0 : Int32), iv (0 : Int32), iv p1, rv i2, rv t2] [(.long q4), (.int ((2 : Int32) * p1)), (.ref t2)])) _
    refine st14 _ ?_
    show Steps p.tables e below (T14.setTop (mkF m 59 #[rv r0, iv p1, rv r2, .val .null, .val (.long q4), .second, .val (.long (0 : Int64)), .second, iv (0 : Int32), iv (0 : Int32), iv p1, rv i2, rv t2] [])) _
    refine XS.aload X14.here hx rfl (hb hby d16_59) rfl rfl ?_
    refine XS.iconst X14.here hx rfl (hb hby d16_61) ?_
    refine XS.iload X14.here hx rfl (hb hby d16_62) rfl ?_
    refine XS.imul X14.here hx rfl (hb hby d16_64) rfl ?_
    refine XS.iconst X14.here hx rfl (hb hby d16_65) ?_
    refine XS.iadd X14.here hx rfl (hb hby d16_66) rfl ?_
    show Steps p.tables e below (T14.setTop (mkF m 67 #[rv r0, iv p1, rv r2, .val .null, .val (.long q4), .second, .val (.long (0 : Int64)), .second, iv (0 : Int32), iv (0 : Int32), iv p1, rv i2, rv t2] [(.int (((2 : Int32) * p1) + (1 : Int32))), (.ref t2)])) _
    refine XS.lload X14.here hx rfl (hb hby d16_67) rfl ?_
    exact kt
  obtain ⟨cl16, Ar16, q16, S16, M16, H16, G16⟩ := id V14
  have hin16 : ¬ ((((2 : Int32) * p1) + (1 : Int32)) < 0 ∨ cl16.slots.size ≤ ((((2 : Int32) * p1) + (1 : Int32))).toNatClampNeg) := own_inb S16 (n := 128) (by decide) (own_idx p1 64 hp (by decide)).2.2.2 ⟨by omega, by omega⟩
  obtain ⟨T16, h16, X16, e16, W16, st16⟩ := stJ X14 hx hZ e14 Ar16 (j := (((2 : Int32) * p1) + (1 : Int32))) hin16 (g := (mkF m 69 #[rv r0, iv p1, rv r2, .val .null, .val (.long q4), .second, .val (.long (0 : Int64)), .second, iv (0 : Int32), iv (0 : Int32), iv p1, rv i2, rv t2] [(.long (0 : Int64)), (.int (((2 : Int32) * p1) + (1 : Int32))), (.ref t2)])) rfl rfl (hb hby d16_69)
  have V16 : Arh Z h16 t2 kt .long (128 : Int32) [((((2 : Int32) * p1) + (1 : Int32)), (.long (0 : Int64))), (((2 : Int32) * p1), (.long q4))] [] (.long (0 : Int64)) := Arh.push Ar16 q16 S16 M16 H16 G16 rfl W16 hin16
  have K16 : Keep h0 h16 [i2, t2, f2] := K14.wr W16 (Or.inl (List.mem_of_getElem? (i := 1) rfl))
  have N16 := Fr.snoc X16 N14 g_t2
  have pre17 : ∀ t, Steps p.tables e below (T16.setTop (mkF m 71 #[rv r0, iv p1, rv r2, .val .null, .val (.long q4), .second, .val (.long (0 : Int64)), .second, iv (0 : Int32), iv (0 : Int32), iv p1, rv i2, rv t2] [(.ref r0)])) t → Steps p.tables e below (s₁.setTop (entryFrame m #[(.ref r0), (.int p1), (.ref r2), .null, (.long q4), (.long (0 : Int64)), (.int (0 : Int32))] 13)) t := by
    intro t kt
    refine pre15 _ ?_
    show Steps p.tables e below (T14.setTop (mkF m 69 #[rv r0, iv p1, rv r2, .val .null, .val (.long q4), .second, .val (.long (0 : Int64)), .second, iv (0 : Int32), iv (0 : Int32), iv p1, rv i2, rv t2] [(.long (0 : Int64)), (.int (((2 : Int32) * p1) + (1 : Int32))), (.ref t2)])) _
    refine st16 _ ?_
    show Steps p.tables e below (T16.setTop (mkF m 70 #[rv r0, iv p1, rv r2, .val .null, .val (.long q4), .second, .val (.long (0 : Int64)), .second, iv (0 : Int32), iv (0 : Int32), iv p1, rv i2, rv t2] [])) _
    refine XS.aloadN X16.here hx rfl (hb hby d16_70) rfl rfl ?_
    exact kt
  obtain ⟨T18, X18, e18, st18⟩ := getF X16 hx hZ hown (host := "") (Or.inl (hw _ (List.mem_of_getElem? (i := 19) rfl))) Via.refl e16 ((((Sfl0.other W7 (Or.inl (Exa.ne ((((E_r0.wr W7).wr W9).wr W14).wr W16) ((((Sei20.wr W7).wr W9).wr W14).wr W16) (by decide)))).other W9 (Or.inl (Exa.ne ((((E_r0.wr W7).wr W9).wr W14).wr W16) ((((Sei20.wr W7).wr W9).wr W14).wr W16) (by decide)))).other W14 (Or.inl (Exa.ne ((((E_r0.wr W7).wr W9).wr W14).wr W16) ((((Set20.wr W7).wr W9).wr W14).wr W16) (by decide)))).other W16 (Or.inl (Exa.ne ((((E_r0.wr W7).wr W9).wr W14).wr W16) ((((Set20.wr W7).wr W9).wr W14).wr W16) (by decide)))) (g := (mkF m 71 #[rv r0, iv p1, rv r2, .val .null, .val (.long q4), .second, .val (.long (0 : Int64)), .second, iv (0 : Int32), iv (0 : Int32), iv p1, rv i2, rv t2] [(.ref r0)])) rfl rfl (hb hby d16_71)
  obtain ⟨cl19, Ar19, q19, S19, M19, H19, G19⟩ := id ((((SvF10.other W7 (Exa.ne ((((SeF10.wr W7).wr W9).wr W14).wr W16) ((((Sei20.wr W7).wr W9).wr W14).wr W16) (by decide))).other W9 (Exa.ne ((((SeF10.wr W7).wr W9).wr W14).wr W16) ((((Sei20.wr W7).wr W9).wr W14).wr W16) (by decide))).other W14 (Exa.ne ((((SeF10.wr W7).wr W9).wr W14).wr W16) ((((Set20.wr W7).wr W9).wr W14).wr W16) (by decide))).other W16 (Exa.ne ((((SeF10.wr W7).wr W9).wr W14).wr W16) ((((Set20.wr W7).wr W9).wr W14).wr W16) (by decide)))
  have hin19 : ¬ ((0 : Int32) < 0 ∨ cl19.slots.size ≤ ((0 : Int32)).toNatClampNeg) := inb_of S19 ⟨by decide, by decide⟩
  have hat19 : cl19.slots[((0 : Int32)).toNatClampNeg]? = some (.ref f2) := H19.at hin19 rfl
  have pre20 : ∀ t, Steps p.tables e below (T18.setTop (mkF m 81 #[rv r0, iv p1, rv r2, .val .null, .val (.long q4), .second, .val (.long (0 : Int64)), .second, iv (0 : Int32), iv (0 : Int32), iv p1, rv i2, rv t2] [(.int (0 : Int32)), (.int p1), (.ref f2)])) t → Steps p.tables e below (s₁.setTop (entryFrame m #[(.ref r0), (.int p1), (.ref r2), .null, (.long q4), (.long (0 : Int64)), (.int (0 : Int32))] 13)) t := by
    intro t kt
    refine pre17 _ ?_
    show Steps p.tables e below (T16.setTop (mkF m 71 #[rv r0, iv p1, rv r2, .val .null, .val (.long q4), .second, .val (.long (0 : Int64)), .second, iv (0 : Int32), iv (0 : Int32), iv p1, rv i2, rv t2] [(.ref r0)])) _
    refine st18 _ ?_
    show Steps p.tables e below (T18.setTop (mkF m 74 #[rv r0, iv p1, rv r2, .val .null, .val (.long q4), .second, .val (.long (0 : Int64)), .second, iv (0 : Int32), iv (0 : Int32), iv p1, rv i2, rv t2] [(.ref F1)])) _
    refine XS.iload X18.here hx rfl (hb hby d16_74) rfl ?_
    refine X18.aaload hx (j := (0 : Int32)) (v := (.ref f2)) (by rw [e18]; exact Ar19.1) (State.isArrayOf_alike hZ.alike Ar19.2.1) rfl Ar19.2.2 hin19 hat19 (g := (mkF m 76 #[rv r0, iv p1, rv r2, .val .null, .val (.long q4), .second, .val (.long (0 : Int64)), .second, iv (0 : Int32), iv (0 : Int32), iv p1, rv i2, rv t2] [(.int (0 : Int32)), (.ref F1)])) rfl rfl (hb hby d16_76) _ ?_
    show Steps p.tables e below (T18.setTop (mkF m 77 #[rv r0, iv p1, rv r2, .val .null, .val (.long q4), .second, .val (.long (0 : Int64)), .second, iv (0 : Int32), iv (0 : Int32), iv p1, rv i2, rv t2] [(.ref f2)])) _
    refine XS.iload X18.here hx rfl (hb hby d16_77) rfl ?_
    refine XS.iload X18.here hx rfl (hb hby d16_79) rfl ?_
    exact kt
  obtain ⟨cl21, Ar21, q21, S21, M21, H21, G21⟩ := id ((((Svf20.other W7 (Exa.ne ((((Sef20.wr W7).wr W9).wr W14).wr W16) ((((Sei20.wr W7).wr W9).wr W14).wr W16) (by decide))).other W9 (Exa.ne ((((Sef20.wr W7).wr W9).wr W14).wr W16) ((((Sei20.wr W7).wr W9).wr W14).wr W16) (by decide))).other W14 (Exa.ne ((((Sef20.wr W7).wr W9).wr W14).wr W16) ((((Set20.wr W7).wr W9).wr W14).wr W16) (by decide))).other W16 (Exa.ne ((((Sef20.wr W7).wr W9).wr W14).wr W16) ((((Set20.wr W7).wr W9).wr W14).wr W16) (by decide)))
  have hin21 : ¬ (p1 < 0 ∨ cl21.slots.size ≤ (p1).toNatClampNeg) := own_inb S21 (n := 64) (by decide) rfl hp
  obtain ⟨T21, h21, X21, e21, W21, st21⟩ := stB X18 hx hZ e18 Ar21 (j := p1) hin21 (g := (mkF m 81 #[rv r0, iv p1, rv r2, .val .null, .val (.long q4), .second, .val (.long (0 : Int64)), .second, iv (0 : Int32), iv (0 : Int32), iv p1, rv i2, rv t2] [(.int (0 : Int32)), (.int p1), (.ref f2)])) rfl rfl (hb hby d16_81)
  have nn21 : nar .byte (0 : Int32) = (0 : Int32) := (by decide)
  rw [nn21] at W21
  have V21 : Arh Z h21 f2 kf .byte (64 : Int32) [(p1, (.int (0 : Int32)))] [] (.int (0 : Int32)) := Arh.push Ar21 q21 S21 M21 H21 G21 (own_fb nn21) W21 hin21
  have K21 : Keep h0 h21 [i2, t2, f2] := K16.wr W21 (Or.inl (List.mem_of_getElem? (i := 2) rfl))
  have N21 := Fr.snoc X21 N16 g_f2
  have pre22 : ∀ t, Steps p.tables e below (T21.setTop (mkF m 82 #[rv r0, iv p1, rv r2, .val .null, .val (.long q4), .second, .val (.long (0 : Int64)), .second, iv (0 : Int32), iv (0 : Int32), iv p1, rv i2, rv t2] [])) t → Steps p.tables e below (s₁.setTop (entryFrame m #[(.ref r0), (.int p1), (.ref r2), .null, (.long q4), (.long (0 : Int64)), (.int (0 : Int32))] 13)) t := by
    intro t kt
    refine pre20 _ ?_
    show Steps p.tables e below (T18.setTop (mkF m 81 #[rv r0, iv p1, rv r2, .val .null, .val (.long q4), .second, .val (.long (0 : Int64)), .second, iv (0 : Int32), iv (0 : Int32), iv p1, rv i2, rv t2] [(.int (0 : Int32)), (.int p1), (.ref f2)])) _
    refine st21 _ ?_
    exact kt
  obtain ⟨fs, hr, hrun, hended, hW, hsame⟩ := X21.leave (v := none) (fun _ => rfl)
  refine ⟨_, _, pre22 _ ?_, hrun, hended, _, _, rfl, ?_, ⟨_, rfl⟩, hW, hsame.mono (by decide) (by decide)⟩
  · show Steps p.tables e below (T21.setTop (mkF m 82 #[rv r0, iv p1, rv r2, .val .null, .val (.long q4), .second, .val (.long (0 : Int64)), .second, iv (0 : Int32), iv (0 : Int32), iv p1, rv i2, rv t2] [])) _
    exact X21.returnOut hx Bd.returns (hb hby d16_82) hr
  · show Q16c64 Z r0 p1 r2 q4 I1 T1 F1 i2 t2 f2 kI kT kF ki kt kf h0 n0 _ T21.heap _
    rw [e21]
    exact ⟨rfl, N21, K21, (((V9.other W14 (Exa.ne (((((Sei20.wr W7).wr W9).wr W14).wr W16).wr W21) (((((Set20.wr W7).wr W9).wr W14).wr W16).wr W21) (by decide))).other W16 (Exa.ne (((((Sei20.wr W7).wr W9).wr W14).wr W16).wr W21) (((((Set20.wr W7).wr W9).wr W14).wr W16).wr W21) (by decide))).other W21 (Exa.ne (((((Sei20.wr W7).wr W9).wr W14).wr W16).wr W21) (((((Sef20.wr W7).wr W9).wr W14).wr W16).wr W21) (by decide))), (V16.other W21 (Exa.ne (((((Set20.wr W7).wr W9).wr W14).wr W16).wr W21) (((((Sef20.wr W7).wr W9).wr W14).wr W16).wr W21) (by decide)))⟩
theorem d17_0 : decode prog_42_method_8_code 0 = .ok (.aload_n 0, 1) := by decide +kernel
theorem d17_1 : decode prog_42_method_8_code 1 = .ok (.getfield 17, 3) := by decide +kernel
theorem d17_4 : decode prog_42_method_8_code 4 = .ok (.iload_n 1, 1) := by decide +kernel
theorem d17_5 : decode prog_42_method_8_code 5 = .ok (.getstatic 48, 3) := by decide +kernel
theorem d17_8 : decode prog_42_method_8_code 8 = .ok (.iushr, 1) := by decide +kernel
theorem d17_9 : decode prog_42_method_8_code 9 = .ok (.aaload, 1) := by decide +kernel
theorem d17_10 : decode prog_42_method_8_code 10 = .ok (.iconst 2, 1) := by decide +kernel
theorem d17_11 : decode prog_42_method_8_code 11 = .ok (.iload_n 1, 1) := by decide +kernel
theorem d17_12 : decode prog_42_method_8_code 12 = .ok (.sipush 1023, 3) := by decide +kernel
theorem d17_15 : decode prog_42_method_8_code 15 = .ok (.iand, 1) := by decide +kernel
theorem d17_16 : decode prog_42_method_8_code 16 = .ok (.imul, 1) := by decide +kernel
theorem d17_17 : decode prog_42_method_8_code 17 = .ok (.laload, 1) := by decide +kernel
theorem d17_18 : decode prog_42_method_8_code 18 = .ok (.lreturn, 1) := by decide +kernel
theorem ef_17 (m : MethodId) (x0 : Addr) (x1 : Int32) : entryFrame m #[(.ref x0), (.int x1)] 2 = mkF m 0 #[.val (.ref x0), .val (.int x1)] [] := by first | (simp [entryFrame, mkF, argsToLocals, Value.category]; done) | rfl
def Q17 (Z : State) (r0 : Addr) (p1 : Int32) (A1 : Addr) (A2 : Addr) (k1 : ClassId) (k2 : ClassId) (hs : List (Int32 × Value)) (w : Int64) (h0 : Heap) (n0 : Nat) (v : Option Value) (h : Heap) (L : List Loc) : Prop := v = some (.long w) ∧ Fr n0 L ∧ h = h0
set_option maxRecDepth 65536 in
set_option maxHeartbeats 40000000 in
theorem rm17 (l : Launch) (Z : State) (a0 : Array Value) (hw : ∀ d ∈ tables_1, d.before a0 Z = true) (ws : List Jvm.Cond) (r0 : Addr) (p1 : Int32) (A1 : Addr) (A2 : Addr) (k1 : ClassId) (k2 : ClassId) (hs : List (Int32 × Value)) (w : Int64) (h0 : Heap) (n0 : Nat) (Z0 : n0 ≤ h0.size) (F_times_r0 : Fld Z h0 r0 "com/example/loopsmith/loopsmith/queue/Slots" "times" "[[J" (.ref A1)) (V_A1 : Arv Z h0 A1 k1 (.array .long) (1 : Int32) [(.ref A2)] .null) (H_A2 : Arh Z h0 A2 k2 .long (32 : Int32) hs [] (.long (0 : Int64))) (O0 : Old Z n0 h0) (S_bb : Sta Z Z.heap "com/example/loopsmith/loopsmith/queue/Slots" "BLOCK_BITS" "I" (.int (10 : Int32))) (hp : 0 ≤ p1.toInt ∧ p1.toInt < 16) (hv : getH hs [] (.long (0 : Int64)) ((2 : Int32) * p1).toNatClampNeg = (.long w)) :
    MetFree l (⟨"com/example/loopsmith/loopsmith/queue/Slots", "when", "(I)J"⟩ : MethodName) (head1 (Jvm.Cond.code (⟨"com/example/loopsmith/loopsmith/queue/Slots", "when", "(I)J"⟩ : MethodName) prog_42_method_8_code 2 (some .long) :: ws) ({ frames := 0, cells := 0, slots := 0, locals := 0 } : Room)) (fun a U => a = #[(.ref r0), (.int p1)] ∧ Z.Warmed39 U.vm ∧ U.heap = h0) (fun _ _ _ _ _ => True) (fun _ U o U' => ∃ v L, o = .returned v ∧ Q17 Z r0 p1 A1 A2 k1 k2 hs w h0 n0 v U'.heap L ∧ FrameEnd U o U' L ({ frames := 0, cells := 0, slots := 0, locals := 0 } : Room).cells ({ frames := 0, cells := 0, slots := 0, locals := 0 } : Room).slots) := by
  refine MetFree.of_bodySF (plainFor_of_name pn4) hisR ?_
  intro p e s m args below meth c s₁ Bd hml0 hP hK
  obtain ⟨rfl, hZ, hh⟩ := hP
  have hx := Bd.exec
  have hby := Bd.bytes
  have hml : c.maxLocals = 2 := hml0
  have hown : s.vm.findClass "com/example/loopsmith/loopsmith/queue/Slots" = some m.cls := findClass_of_methodNamed Bd.named
  have hnm := (name_of_methodNamed Bd.named Bd.method).1
  have X0 : Stand p l e ({ frames := 0, cells := 0, slots := 0, locals := 0 } : Room) s m #[(.ref r0), (.int p1)] below meth c s₁ [] 0 0 := Stand.of_body Bd
  have e0 : s₁.heap = h0 := by rw [← hh, Bd.state]; rfl
  have N0 := Fr.nil n0
  have pre0 : ∀ t, Steps p.tables e below (s₁.setTop (mkF m 0 #[rv r0, iv p1] [])) t → Steps p.tables e below (s₁.setTop (entryFrame m #[(.ref r0), (.int p1)] 2)) t := fun t k => castTop (ef_17 m r0 p1) k
  have pre1 : ∀ t, Steps p.tables e below (s₁.setTop (mkF m 1 #[rv r0, iv p1] [(.ref r0)])) t → Steps p.tables e below (s₁.setTop (entryFrame m #[(.ref r0), (.int p1)] 2)) t := by
    intro t kt
    refine pre0 _ ?_
    show Steps p.tables e below (s₁.setTop (mkF m 0 #[rv r0, iv p1] [])) _
    refine XS.aloadN X0.here hx rfl (hb hby d17_0) rfl rfl ?_
    exact kt
  obtain ⟨T2, X2, e2, st2⟩ := getF X0 hx hZ hown (host := "") (Or.inl (hw _ (List.mem_of_getElem? (i := 15) rfl))) Via.refl e0 F_times_r0 (g := (mkF m 1 #[rv r0, iv p1] [(.ref r0)])) rfl rfl (hb hby d17_1)
  have pre3 : ∀ t, Steps p.tables e below (T2.setTop (mkF m 5 #[rv r0, iv p1] [(.int p1), (.ref A1)])) t → Steps p.tables e below (s₁.setTop (entryFrame m #[(.ref r0), (.int p1)] 2)) t := by
    intro t kt
    refine pre1 _ ?_
    show Steps p.tables e below (s₁.setTop (mkF m 1 #[rv r0, iv p1] [(.ref r0)])) _
    refine st2 _ ?_
    show Steps p.tables e below (T2.setTop (mkF m 4 #[rv r0, iv p1] [(.ref A1)])) _
    refine XS.iloadN X2.here hx rfl (hb hby d17_4) rfl ?_
    exact kt
  obtain ⟨T4, X4, e4, st4⟩ := getS2 X2 hx hZ hown (host := "") (Or.inl (hw _ (List.mem_of_getElem? (i := 113) rfl))) Via.refl e2 (S_bb.ext (O0.keep (Keep.refl h0 []) all0).2) (g := (mkF m 5 #[rv r0, iv p1] [(.int p1), (.ref A1)])) rfl (hb hby d17_5)
  obtain ⟨cl5, Ar5, q5, S5, M5, H5, G5⟩ := id V_A1
  have hin5 : ¬ ((0 : Int32) < 0 ∨ cl5.slots.size ≤ ((0 : Int32)).toNatClampNeg) := inb_of S5 ⟨by decide, by decide⟩
  have hat5 : cl5.slots[((0 : Int32)).toNatClampNeg]? = some (.ref A2) := H5.at hin5 rfl
  obtain ⟨cl6, Ar6, q6, S6, M6, H6, G6⟩ := id H_A2
  have hin6 : ¬ (((2 : Int32) * p1) < 0 ∨ cl6.slots.size ≤ (((2 : Int32) * p1)).toNatClampNeg) := own_inb S6 (n := 32) (by decide) (own_idx p1 16 hp (by decide)).2.2.1 ⟨by omega, by omega⟩
  have hat6 : cl6.slots[(((2 : Int32) * p1)).toNatClampNeg]? = some (.long w) := atH H6 hin6 hv
  have pre7 : ∀ t, Steps p.tables e below (T4.setTop (mkF m 18 #[rv r0, iv p1] [(.long w)])) t → Steps p.tables e below (s₁.setTop (entryFrame m #[(.ref r0), (.int p1)] 2)) t := by
    intro t kt
    refine pre3 _ ?_
    show Steps p.tables e below (T2.setTop (mkF m 5 #[rv r0, iv p1] [(.int p1), (.ref A1)])) _
    refine st4 _ ?_
    show Steps p.tables e below (T4.setTop (mkF m 8 #[rv r0, iv p1] [(.int (10 : Int32)), (.int p1), (.ref A1)])) _
    refine XS.iushr X4.here hx rfl (hb hby d17_8) rfl ?_
    show Steps p.tables e below (T4.setTop (mkF m 9 #[rv r0, iv p1] [(.int ((p1.toUInt32 >>> ((10 : Int32) &&& 31).toUInt32).toInt32)), (.ref A1)])) _
    rw [show ((p1.toUInt32 >>> ((10 : Int32) &&& 31).toUInt32).toInt32) = (0 : Int32) from (own_idx p1 16 hp (by decide)).1]
    show Steps p.tables e below (T4.setTop (mkF m 9 #[rv r0, iv p1] [(.int (0 : Int32)), (.ref A1)])) _
    refine X4.aaload hx (j := (0 : Int32)) (v := (.ref A2)) (by rw [e4]; exact Ar5.1) (State.isArrayOf_alike hZ.alike Ar5.2.1) rfl Ar5.2.2 hin5 hat5 (g := (mkF m 9 #[rv r0, iv p1] [(.int (0 : Int32)), (.ref A1)])) rfl rfl (hb hby d17_9) _ ?_
    show Steps p.tables e below (T4.setTop (mkF m 10 #[rv r0, iv p1] [(.ref A2)])) _
    refine XS.iconst X4.here hx rfl (hb hby d17_10) ?_
    refine XS.iloadN X4.here hx rfl (hb hby d17_11) rfl ?_
    refine XS.sipush X4.here hx rfl (hb hby d17_12) ?_
    refine XS.iand X4.here hx rfl (hb hby d17_15) rfl ?_
    show Steps p.tables e below (T4.setTop (mkF m 16 #[rv r0, iv p1] [(.int (p1 &&& (1023 : Int32))), (.int (2 : Int32)), (.ref A2)])) _
    rw [show (p1 &&& (1023 : Int32)) = p1 from (own_idx p1 16 hp (by decide)).2.1]
    show Steps p.tables e below (T4.setTop (mkF m 16 #[rv r0, iv p1] [(.int p1), (.int (2 : Int32)), (.ref A2)])) _
    refine XS.imul X4.here hx rfl (hb hby d17_16) rfl ?_
    refine X4.laload hx (j := ((2 : Int32) * p1)) (v := (.long w)) (by rw [e4]; exact Ar6.1) (State.isArrayOf_alike hZ.alike Ar6.2.1) Ar6.2.2 hin6 hat6 (g := (mkF m 17 #[rv r0, iv p1] [(.int ((2 : Int32) * p1)), (.ref A2)])) rfl rfl (hb hby d17_17) _ ?_
    exact kt
  obtain ⟨fs, hr, hrun, hended, hW, hsame⟩ := X4.leave (v := some (.long w)) (fun h => by rw [Bd.returns] at h; cases h)
  refine ⟨_, _, pre7 _ ?_, hrun, hended, _, _, rfl, ?_, ⟨_, rfl⟩, hW, hsame.mono (by decide) (by decide)⟩
  · show Steps p.tables e below (T4.setTop (mkF m 18 #[rv r0, iv p1] [(.long w)])) _
    jvm_step X4.here [X4.here.top, hx, (hb hby d17_18), X4.method', Bd.returns, narrow]
    first | (intro acts; rw [hr _ acts rfl rfl rfl]) | rw [hr _ _ rfl rfl rfl]
    exact Steps.refl _
  · show Q17 Z r0 p1 A1 A2 k1 k2 hs w h0 n0 _ T4.heap _
    rw [e4]
    exact ⟨rfl, N0, rfl⟩
theorem d18_0 : decode prog_42_method_6_code 0 = .ok (.aload_n 0, 1) := by decide +kernel
theorem d18_1 : decode prog_42_method_6_code 1 = .ok (.getfield 11, 3) := by decide +kernel
theorem d18_4 : decode prog_42_method_6_code 4 = .ok (.iload_n 1, 1) := by decide +kernel
theorem d18_5 : decode prog_42_method_6_code 5 = .ok (.getstatic 48, 3) := by decide +kernel
theorem d18_8 : decode prog_42_method_6_code 8 = .ok (.iushr, 1) := by decide +kernel
theorem d18_9 : decode prog_42_method_6_code 9 = .ok (.aaload, 1) := by decide +kernel
theorem d18_10 : decode prog_42_method_6_code 10 = .ok (.iconst 2, 1) := by decide +kernel
theorem d18_11 : decode prog_42_method_6_code 11 = .ok (.iload_n 1, 1) := by decide +kernel
theorem d18_12 : decode prog_42_method_6_code 12 = .ok (.sipush 1023, 3) := by decide +kernel
theorem d18_15 : decode prog_42_method_6_code 15 = .ok (.iand, 1) := by decide +kernel
theorem d18_16 : decode prog_42_method_6_code 16 = .ok (.imul, 1) := by decide +kernel
theorem d18_17 : decode prog_42_method_6_code 17 = .ok (.aaload, 1) := by decide +kernel
theorem d18_18 : decode prog_42_method_6_code 18 = .ok (.areturn, 1) := by decide +kernel
theorem ef_18r (m : MethodId) (x0 : Addr) (x1 : Int32) : entryFrame m #[(.ref x0), (.int x1)] 2 = mkF m 0 #[.val (.ref x0), .val (.int x1)] [] := by first | (simp [entryFrame, mkF, argsToLocals, Value.category]; done) | rfl
def Q18r (Z : State) (r0 : Addr) (p1 : Int32) (A1 : Addr) (A2 : Addr) (k1 : ClassId) (k2 : ClassId) (hs : List (Int32 × Value)) (w : Addr) (h0 : Heap) (n0 : Nat) (v : Option Value) (h : Heap) (L : List Loc) : Prop := v = some (.ref w) ∧ Fr n0 L ∧ h = h0
set_option maxRecDepth 65536 in
set_option maxHeartbeats 40000000 in
theorem rm18r (l : Launch) (Z : State) (a0 : Array Value) (hw : ∀ d ∈ tables_1, d.before a0 Z = true) (ws : List Jvm.Cond) (r0 : Addr) (p1 : Int32) (A1 : Addr) (A2 : Addr) (k1 : ClassId) (k2 : ClassId) (hs : List (Int32 × Value)) (w : Addr) (h0 : Heap) (n0 : Nat) (Z0 : n0 ≤ h0.size) (F_items_r0 : Fld Z h0 r0 "com/example/loopsmith/loopsmith/queue/Slots" "items" "[[Ljava/lang/Object;" (.ref A1)) (V_A1 : Arv Z h0 A1 k1 (.array (.object "java/lang/Object")) (1 : Int32) [(.ref A2)] .null) (H_A2 : Arh Z h0 A2 k2 (.object "java/lang/Object") (32 : Int32) hs [] .null) (O0 : Old Z n0 h0) (S_bb : Sta Z Z.heap "com/example/loopsmith/loopsmith/queue/Slots" "BLOCK_BITS" "I" (.int (10 : Int32))) (hp : 0 ≤ p1.toInt ∧ p1.toInt < 16) (hv : getH hs [] .null ((2 : Int32) * p1).toNatClampNeg = (.ref w)) :
    MetFree l (⟨"com/example/loopsmith/loopsmith/queue/Slots", "item", "(I)Ljava/lang/Object;"⟩ : MethodName) (head1 (Jvm.Cond.code (⟨"com/example/loopsmith/loopsmith/queue/Slots", "item", "(I)Ljava/lang/Object;"⟩ : MethodName) prog_42_method_6_code 2 (some (.object "java/lang/Object")) :: ws) ({ frames := 0, cells := 0, slots := 0, locals := 0 } : Room)) (fun a U => a = #[(.ref r0), (.int p1)] ∧ Z.Warmed39 U.vm ∧ U.heap = h0) (fun _ _ _ _ _ => True) (fun _ U o U' => ∃ v L, o = .returned v ∧ Q18r Z r0 p1 A1 A2 k1 k2 hs w h0 n0 v U'.heap L ∧ FrameEnd U o U' L ({ frames := 0, cells := 0, slots := 0, locals := 0 } : Room).cells ({ frames := 0, cells := 0, slots := 0, locals := 0 } : Room).slots) := by
  refine MetFree.of_bodySF (plainFor_of_name pn4) hisR ?_
  intro p e s m args below meth c s₁ Bd hml0 hP hK
  obtain ⟨rfl, hZ, hh⟩ := hP
  have hx := Bd.exec
  have hby := Bd.bytes
  have hml : c.maxLocals = 2 := hml0
  have hown : s.vm.findClass "com/example/loopsmith/loopsmith/queue/Slots" = some m.cls := findClass_of_methodNamed Bd.named
  have hnm := (name_of_methodNamed Bd.named Bd.method).1
  have X0 : Stand p l e ({ frames := 0, cells := 0, slots := 0, locals := 0 } : Room) s m #[(.ref r0), (.int p1)] below meth c s₁ [] 0 0 := Stand.of_body Bd
  have e0 : s₁.heap = h0 := by rw [← hh, Bd.state]; rfl
  have N0 := Fr.nil n0
  have pre0 : ∀ t, Steps p.tables e below (s₁.setTop (mkF m 0 #[rv r0, iv p1] [])) t → Steps p.tables e below (s₁.setTop (entryFrame m #[(.ref r0), (.int p1)] 2)) t := fun t k => castTop (ef_18r m r0 p1) k
  have pre1 : ∀ t, Steps p.tables e below (s₁.setTop (mkF m 1 #[rv r0, iv p1] [(.ref r0)])) t → Steps p.tables e below (s₁.setTop (entryFrame m #[(.ref r0), (.int p1)] 2)) t := by
    intro t kt
    refine pre0 _ ?_
    show Steps p.tables e below (s₁.setTop (mkF m 0 #[rv r0, iv p1] [])) _
    refine XS.aloadN X0.here hx rfl (hb hby d18_0) rfl rfl ?_
    exact kt
  obtain ⟨T2, X2, e2, st2⟩ := getF X0 hx hZ hown (host := "") (Or.inl (hw _ (List.mem_of_getElem? (i := 11) rfl))) Via.refl e0 F_items_r0 (g := (mkF m 1 #[rv r0, iv p1] [(.ref r0)])) rfl rfl (hb hby d18_1)
  have pre3 : ∀ t, Steps p.tables e below (T2.setTop (mkF m 5 #[rv r0, iv p1] [(.int p1), (.ref A1)])) t → Steps p.tables e below (s₁.setTop (entryFrame m #[(.ref r0), (.int p1)] 2)) t := by
    intro t kt
    refine pre1 _ ?_
    show Steps p.tables e below (s₁.setTop (mkF m 1 #[rv r0, iv p1] [(.ref r0)])) _
    refine st2 _ ?_
    show Steps p.tables e below (T2.setTop (mkF m 4 #[rv r0, iv p1] [(.ref A1)])) _
    refine XS.iloadN X2.here hx rfl (hb hby d18_4) rfl ?_
    exact kt
  obtain ⟨T4, X4, e4, st4⟩ := getS2 X2 hx hZ hown (host := "") (Or.inl (hw _ (List.mem_of_getElem? (i := 113) rfl))) Via.refl e2 (S_bb.ext (O0.keep (Keep.refl h0 []) all0).2) (g := (mkF m 5 #[rv r0, iv p1] [(.int p1), (.ref A1)])) rfl (hb hby d18_5)
  obtain ⟨cl5, Ar5, q5, S5, M5, H5, G5⟩ := id V_A1
  have hin5 : ¬ ((0 : Int32) < 0 ∨ cl5.slots.size ≤ ((0 : Int32)).toNatClampNeg) := inb_of S5 ⟨by decide, by decide⟩
  have hat5 : cl5.slots[((0 : Int32)).toNatClampNeg]? = some (.ref A2) := H5.at hin5 rfl
  obtain ⟨cl6, Ar6, q6, S6, M6, H6, G6⟩ := id H_A2
  have hin6 : ¬ (((2 : Int32) * p1) < 0 ∨ cl6.slots.size ≤ (((2 : Int32) * p1)).toNatClampNeg) := own_inb S6 (n := 32) (by decide) (own_idx p1 16 hp (by decide)).2.2.1 ⟨by omega, by omega⟩
  have hat6 : cl6.slots[(((2 : Int32) * p1)).toNatClampNeg]? = some (.ref w) := atH H6 hin6 hv
  have pre7 : ∀ t, Steps p.tables e below (T4.setTop (mkF m 18 #[rv r0, iv p1] [(.ref w)])) t → Steps p.tables e below (s₁.setTop (entryFrame m #[(.ref r0), (.int p1)] 2)) t := by
    intro t kt
    refine pre3 _ ?_
    show Steps p.tables e below (T2.setTop (mkF m 5 #[rv r0, iv p1] [(.int p1), (.ref A1)])) _
    refine st4 _ ?_
    show Steps p.tables e below (T4.setTop (mkF m 8 #[rv r0, iv p1] [(.int (10 : Int32)), (.int p1), (.ref A1)])) _
    refine XS.iushr X4.here hx rfl (hb hby d18_8) rfl ?_
    show Steps p.tables e below (T4.setTop (mkF m 9 #[rv r0, iv p1] [(.int ((p1.toUInt32 >>> ((10 : Int32) &&& 31).toUInt32).toInt32)), (.ref A1)])) _
    rw [show ((p1.toUInt32 >>> ((10 : Int32) &&& 31).toUInt32).toInt32) = (0 : Int32) from (own_idx p1 16 hp (by decide)).1]
    show Steps p.tables e below (T4.setTop (mkF m 9 #[rv r0, iv p1] [(.int (0 : Int32)), (.ref A1)])) _
    refine X4.aaload hx (j := (0 : Int32)) (v := (.ref A2)) (by rw [e4]; exact Ar5.1) (State.isArrayOf_alike hZ.alike Ar5.2.1) rfl Ar5.2.2 hin5 hat5 (g := (mkF m 9 #[rv r0, iv p1] [(.int (0 : Int32)), (.ref A1)])) rfl rfl (hb hby d18_9) _ ?_
    show Steps p.tables e below (T4.setTop (mkF m 10 #[rv r0, iv p1] [(.ref A2)])) _
    refine XS.iconst X4.here hx rfl (hb hby d18_10) ?_
    refine XS.iloadN X4.here hx rfl (hb hby d18_11) rfl ?_
    refine XS.sipush X4.here hx rfl (hb hby d18_12) ?_
    refine XS.iand X4.here hx rfl (hb hby d18_15) rfl ?_
    show Steps p.tables e below (T4.setTop (mkF m 16 #[rv r0, iv p1] [(.int (p1 &&& (1023 : Int32))), (.int (2 : Int32)), (.ref A2)])) _
    rw [show (p1 &&& (1023 : Int32)) = p1 from (own_idx p1 16 hp (by decide)).2.1]
    show Steps p.tables e below (T4.setTop (mkF m 16 #[rv r0, iv p1] [(.int p1), (.int (2 : Int32)), (.ref A2)])) _
    refine XS.imul X4.here hx rfl (hb hby d18_16) rfl ?_
    refine X4.aaload hx (j := ((2 : Int32) * p1)) (v := (.ref w)) (by rw [e4]; exact Ar6.1) (State.isArrayOf_alike hZ.alike Ar6.2.1) rfl Ar6.2.2 hin6 hat6 (g := (mkF m 17 #[rv r0, iv p1] [(.int ((2 : Int32) * p1)), (.ref A2)])) rfl rfl (hb hby d18_17) _ ?_
    exact kt
  obtain ⟨fs, hr, hrun, hended, hW, hsame⟩ := X4.leave (v := some (.ref w)) (fun h => by rw [Bd.returns] at h; cases h)
  refine ⟨_, _, pre7 _ ?_, hrun, hended, _, _, rfl, ?_, ⟨_, rfl⟩, hW, hsame.mono (by decide) (by decide)⟩
  · show Steps p.tables e below (T4.setTop (mkF m 18 #[rv r0, iv p1] [(.ref w)])) _
    jvm_step X4.here [X4.here.top, hx, (hb hby d18_18), X4.method', Bd.returns, Value.isRef, FieldType.isReference]
    first | (intro acts; rw [hr _ acts rfl rfl rfl]) | rw [hr _ _ rfl rfl rfl]
    exact Steps.refl _
  · show Q18r Z r0 p1 A1 A2 k1 k2 hs w h0 n0 _ T4.heap _
    rw [e4]
    exact ⟨rfl, N0, rfl⟩

theorem ef_18n (m : MethodId) (x0 : Addr) (x1 : Int32) : entryFrame m #[(.ref x0), (.int x1)] 2 = mkF m 0 #[.val (.ref x0), .val (.int x1)] [] := by first | (simp [entryFrame, mkF, argsToLocals, Value.category]; done) | rfl
def Q18n (Z : State) (r0 : Addr) (p1 : Int32) (A1 : Addr) (A2 : Addr) (k1 : ClassId) (k2 : ClassId) (hs : List (Int32 × Value)) (h0 : Heap) (n0 : Nat) (v : Option Value) (h : Heap) (L : List Loc) : Prop := v = some .null ∧ Fr n0 L ∧ h = h0
set_option maxRecDepth 65536 in
set_option maxHeartbeats 40000000 in
theorem rm18n (l : Launch) (Z : State) (a0 : Array Value) (hw : ∀ d ∈ tables_1, d.before a0 Z = true) (ws : List Jvm.Cond) (r0 : Addr) (p1 : Int32) (A1 : Addr) (A2 : Addr) (k1 : ClassId) (k2 : ClassId) (hs : List (Int32 × Value)) (h0 : Heap) (n0 : Nat) (Z0 : n0 ≤ h0.size) (F_items_r0 : Fld Z h0 r0 "com/example/loopsmith/loopsmith/queue/Slots" "items" "[[Ljava/lang/Object;" (.ref A1)) (V_A1 : Arv Z h0 A1 k1 (.array (.object "java/lang/Object")) (1 : Int32) [(.ref A2)] .null) (H_A2 : Arh Z h0 A2 k2 (.object "java/lang/Object") (32 : Int32) hs [] .null) (O0 : Old Z n0 h0) (S_bb : Sta Z Z.heap "com/example/loopsmith/loopsmith/queue/Slots" "BLOCK_BITS" "I" (.int (10 : Int32))) (hp : 0 ≤ p1.toInt ∧ p1.toInt < 16) (hv : getH hs [] .null ((2 : Int32) * p1).toNatClampNeg = .null) :
    MetFree l (⟨"com/example/loopsmith/loopsmith/queue/Slots", "item", "(I)Ljava/lang/Object;"⟩ : MethodName) (head1 (Jvm.Cond.code (⟨"com/example/loopsmith/loopsmith/queue/Slots", "item", "(I)Ljava/lang/Object;"⟩ : MethodName) prog_42_method_6_code 2 (some (.object "java/lang/Object")) :: ws) ({ frames := 0, cells := 0, slots := 0, locals := 0 } : Room)) (fun a U => a = #[(.ref r0), (.int p1)] ∧ Z.Warmed39 U.vm ∧ U.heap = h0) (fun _ _ _ _ _ => True) (fun _ U o U' => ∃ v L, o = .returned v ∧ Q18n Z r0 p1 A1 A2 k1 k2 hs h0 n0 v U'.heap L ∧ FrameEnd U o U' L ({ frames := 0, cells := 0, slots := 0, locals := 0 } : Room).cells ({ frames := 0, cells := 0, slots := 0, locals := 0 } : Room).slots) := by
  refine MetFree.of_bodySF (plainFor_of_name pn4) hisR ?_
  intro p e s m args below meth c s₁ Bd hml0 hP hK
  obtain ⟨rfl, hZ, hh⟩ := hP
  have hx := Bd.exec
  have hby := Bd.bytes
  have hml : c.maxLocals = 2 := hml0
  have hown : s.vm.findClass "com/example/loopsmith/loopsmith/queue/Slots" = some m.cls := findClass_of_methodNamed Bd.named
  have hnm := (name_of_methodNamed Bd.named Bd.method).1
  have X0 : Stand p l e ({ frames := 0, cells := 0, slots := 0, locals := 0 } : Room) s m #[(.ref r0), (.int p1)] below meth c s₁ [] 0 0 := Stand.of_body Bd
  have e0 : s₁.heap = h0 := by rw [← hh, Bd.state]; rfl
  have N0 := Fr.nil n0
  have pre0 : ∀ t, Steps p.tables e below (s₁.setTop (mkF m 0 #[rv r0, iv p1] [])) t → Steps p.tables e below (s₁.setTop (entryFrame m #[(.ref r0), (.int p1)] 2)) t := fun t k => castTop (ef_18n m r0 p1) k
  have pre1 : ∀ t, Steps p.tables e below (s₁.setTop (mkF m 1 #[rv r0, iv p1] [(.ref r0)])) t → Steps p.tables e below (s₁.setTop (entryFrame m #[(.ref r0), (.int p1)] 2)) t := by
    intro t kt
    refine pre0 _ ?_
    show Steps p.tables e below (s₁.setTop (mkF m 0 #[rv r0, iv p1] [])) _
    refine XS.aloadN X0.here hx rfl (hb hby d18_0) rfl rfl ?_
    exact kt
  obtain ⟨T2, X2, e2, st2⟩ := getF X0 hx hZ hown (host := "") (Or.inl (hw _ (List.mem_of_getElem? (i := 11) rfl))) Via.refl e0 F_items_r0 (g := (mkF m 1 #[rv r0, iv p1] [(.ref r0)])) rfl rfl (hb hby d18_1)
  have pre3 : ∀ t, Steps p.tables e below (T2.setTop (mkF m 5 #[rv r0, iv p1] [(.int p1), (.ref A1)])) t → Steps p.tables e below (s₁.setTop (entryFrame m #[(.ref r0), (.int p1)] 2)) t := by
    intro t kt
    refine pre1 _ ?_
    show Steps p.tables e below (s₁.setTop (mkF m 1 #[rv r0, iv p1] [(.ref r0)])) _
    refine st2 _ ?_
    show Steps p.tables e below (T2.setTop (mkF m 4 #[rv r0, iv p1] [(.ref A1)])) _
    refine XS.iloadN X2.here hx rfl (hb hby d18_4) rfl ?_
    exact kt
  obtain ⟨T4, X4, e4, st4⟩ := getS2 X2 hx hZ hown (host := "") (Or.inl (hw _ (List.mem_of_getElem? (i := 113) rfl))) Via.refl e2 (S_bb.ext (O0.keep (Keep.refl h0 []) all0).2) (g := (mkF m 5 #[rv r0, iv p1] [(.int p1), (.ref A1)])) rfl (hb hby d18_5)
  obtain ⟨cl5, Ar5, q5, S5, M5, H5, G5⟩ := id V_A1
  have hin5 : ¬ ((0 : Int32) < 0 ∨ cl5.slots.size ≤ ((0 : Int32)).toNatClampNeg) := inb_of S5 ⟨by decide, by decide⟩
  have hat5 : cl5.slots[((0 : Int32)).toNatClampNeg]? = some (.ref A2) := H5.at hin5 rfl
  obtain ⟨cl6, Ar6, q6, S6, M6, H6, G6⟩ := id H_A2
  have hin6 : ¬ (((2 : Int32) * p1) < 0 ∨ cl6.slots.size ≤ (((2 : Int32) * p1)).toNatClampNeg) := own_inb S6 (n := 32) (by decide) (own_idx p1 16 hp (by decide)).2.2.1 ⟨by omega, by omega⟩
  have hat6 : cl6.slots[(((2 : Int32) * p1)).toNatClampNeg]? = some .null := atH H6 hin6 hv
  have pre7 : ∀ t, Steps p.tables e below (T4.setTop (mkF m 18 #[rv r0, iv p1] [.null])) t → Steps p.tables e below (s₁.setTop (entryFrame m #[(.ref r0), (.int p1)] 2)) t := by
    intro t kt
    refine pre3 _ ?_
    show Steps p.tables e below (T2.setTop (mkF m 5 #[rv r0, iv p1] [(.int p1), (.ref A1)])) _
    refine st4 _ ?_
    show Steps p.tables e below (T4.setTop (mkF m 8 #[rv r0, iv p1] [(.int (10 : Int32)), (.int p1), (.ref A1)])) _
    refine XS.iushr X4.here hx rfl (hb hby d18_8) rfl ?_
    show Steps p.tables e below (T4.setTop (mkF m 9 #[rv r0, iv p1] [(.int ((p1.toUInt32 >>> ((10 : Int32) &&& 31).toUInt32).toInt32)), (.ref A1)])) _
    rw [show ((p1.toUInt32 >>> ((10 : Int32) &&& 31).toUInt32).toInt32) = (0 : Int32) from (own_idx p1 16 hp (by decide)).1]
    show Steps p.tables e below (T4.setTop (mkF m 9 #[rv r0, iv p1] [(.int (0 : Int32)), (.ref A1)])) _
    refine X4.aaload hx (j := (0 : Int32)) (v := (.ref A2)) (by rw [e4]; exact Ar5.1) (State.isArrayOf_alike hZ.alike Ar5.2.1) rfl Ar5.2.2 hin5 hat5 (g := (mkF m 9 #[rv r0, iv p1] [(.int (0 : Int32)), (.ref A1)])) rfl rfl (hb hby d18_9) _ ?_
    show Steps p.tables e below (T4.setTop (mkF m 10 #[rv r0, iv p1] [(.ref A2)])) _
    refine XS.iconst X4.here hx rfl (hb hby d18_10) ?_
    refine XS.iloadN X4.here hx rfl (hb hby d18_11) rfl ?_
    refine XS.sipush X4.here hx rfl (hb hby d18_12) ?_
    refine XS.iand X4.here hx rfl (hb hby d18_15) rfl ?_
    show Steps p.tables e below (T4.setTop (mkF m 16 #[rv r0, iv p1] [(.int (p1 &&& (1023 : Int32))), (.int (2 : Int32)), (.ref A2)])) _
    rw [show (p1 &&& (1023 : Int32)) = p1 from (own_idx p1 16 hp (by decide)).2.1]
    show Steps p.tables e below (T4.setTop (mkF m 16 #[rv r0, iv p1] [(.int p1), (.int (2 : Int32)), (.ref A2)])) _
    refine XS.imul X4.here hx rfl (hb hby d18_16) rfl ?_
    refine X4.aaload hx (j := ((2 : Int32) * p1)) (v := .null) (by rw [e4]; exact Ar6.1) (State.isArrayOf_alike hZ.alike Ar6.2.1) rfl Ar6.2.2 hin6 hat6 (g := (mkF m 17 #[rv r0, iv p1] [(.int ((2 : Int32) * p1)), (.ref A2)])) rfl rfl (hb hby d18_17) _ ?_
    exact kt
  obtain ⟨fs, hr, hrun, hended, hW, hsame⟩ := X4.leave (v := some .null) (fun h => by rw [Bd.returns] at h; cases h)
  refine ⟨_, _, pre7 _ ?_, hrun, hended, _, _, rfl, ?_, ⟨_, rfl⟩, hW, hsame.mono (by decide) (by decide)⟩
  · show Steps p.tables e below (T4.setTop (mkF m 18 #[rv r0, iv p1] [.null])) _
    jvm_step X4.here [X4.here.top, hx, (hb hby d18_18), X4.method', Bd.returns, Value.isRef, FieldType.isReference]
    first | (intro acts; rw [hr _ acts rfl rfl rfl]) | rw [hr _ _ rfl rfl rfl]
    exact Steps.refl _
  · show Q18n Z r0 p1 A1 A2 k1 k2 hs h0 n0 _ T4.heap _
    rw [e4]
    exact ⟨rfl, N0, rfl⟩
theorem own_four (p : Int32) : (p &&& (3 : Int32)) = (0 : Int32) ∨ (p &&& (3 : Int32)) = (1 : Int32) ∨ (p &&& (3 : Int32)) = (2 : Int32) ∨ (p &&& (3 : Int32)) = (3 : Int32) := by
  have h1 := c_mask p 3 2 (by decide) (by decide)
  simp only [← Int32.toInt_inj]
  have z : (0 : Int32).toInt = 0 ∧ (1 : Int32).toInt = 1 ∧ (2 : Int32).toInt = 2 ∧ (3 : Int32).toInt = 3 := by decide
  omega
theorem own_rem (b m : Int32) (d : Int) (hm : m.toInt = d) (h0 : 0 < d) : 0 ≤ ((b &&& (2147483647 : Int32)) % m).toInt ∧ ((b &&& (2147483647 : Int32)) % m).toInt < d := by
  have h1 := c_mask b 2147483647 31 (by decide) (by decide)
  have h2 := (c_irem (b &&& 2147483647) m d hm).1 (by omega)
  rw [h2]
  exact ⟨Int.emod_nonneg _ (by omega), Int.emod_lt_of_pos _ h0⟩
theorem own_low (x : Int32) : 0 ≤ (x &&& (15 : Int32)).toInt ∧ (x &&& (15 : Int32)).toInt < 16 := by
  have h := c_mask x 15 4 (by decide) (by decide)
  omega
theorem own_got (p : Int32) (cap : Int) (h : 0 ≤ p.toInt ∧ p.toInt < cap) (hc : cap ≤ 64) (v w d : Value) : getH [(((2 : Int32) * p) + (1 : Int32), w), ((2 : Int32) * p, v)] [] d ((2 : Int32) * p).toNatClampNeg = v := by
  obtain ⟨-, -, e1, e2⟩ := own_idx p cap h hc
  have z0 : (0 : Int32).toInt = 0 := by decide
  have n : ¬ ((2 : Int32) * p) < 0 := by rw [Int32.lt_iff_toInt_lt, e1, z0]; omega
  exact getH_miss n (fun q => by have := congrArg Int32.toInt q; omega) (getH_hit n rfl)
theorem pn13 : plainName "com/example/loopsmith/loopsmith/queue/SlotsLetGoPinLaw" = true := by first | (simp [plainName, overriddenIn]; done) | decide +kernel
theorem pd14 : parseMethodDescriptor "(I)Ljava/lang/Integer;" = some ⟨[.int], some (.object "java/lang/Integer")⟩ := by decide +kernel
theorem pd15 : parseMethodDescriptor "(ILjava/lang/Object;Lcom/example/loopsmith/loopsmith/queue/Message$Target;JJB)V" = some ⟨[.int, (.object "java/lang/Object"), (.object "com/example/loopsmith/loopsmith/queue/Message$Target"), .long, .long, .byte], none⟩ := by decide +kernel
theorem pd16 : parseMethodDescriptor "(I)J" = some ⟨[.int], some .long⟩ := by decide +kernel
theorem pd17 : parseMethodDescriptor "(I)Ljava/lang/Object;" = some ⟨[.int], some (.object "java/lang/Object")⟩ := by decide +kernel
theorem ef_0 (m : MethodId) (x0 : Int32) (x1 : Int32) (x2 : Int64) : entryFrame m #[(.int x0), (.int x1), (.long x2)] maxLocals = mkF m 0 #[.val (.int x0), .val (.int x1), .val (.long x2), .second, .unset, .unset, .unset, .unset, .unset, .unset] [] := by first | (simp [entryFrame, mkF, argsToLocals, Value.category, maxLocals]; done) | rfl
def Q0 (Z : State) (p0 : Int32) (p1 : Int32) (q2 : Int64) (mr : Addr) (ca : Addr) (cc : Cell) (h0 : Heap) (n0 : Nat) (v : Option Value) (h : Heap) (L : List Loc) : Prop := v = some (.int 1) ∧ Fr n0 L
set_option maxRecDepth 65536 in
set_option maxHeartbeats 40000000 in
theorem rm0 (l : Launch) (Z : State) (a0 : Array Value) (hw : ∀ d ∈ tables_1, d.before a0 Z = true) (ws : List Jvm.Cond) (p0 : Int32) (p1 : Int32) (q2 : Int64) (mr : Addr) (ca : Addr) (cc : Cell) (h0 : Heap) (n0 : Nat) (Z0 : n0 ≤ h0.size) (M_ : Mir Z "[Ljava/lang/Object;" mr) (O0 : Old Z n0 h0) (S_bb : Sta Z Z.heap "com/example/loopsmith/loopsmith/queue/Slots" "BLOCK_BITS" "I" (.int (10 : Int32))) (S_high : Sta Z Z.heap "java/lang/Integer$IntegerCache" "high" "I" (.int (127 : Int32))) (S_cache : Sta Z Z.heap "java/lang/Integer$IntegerCache" "cache" "[Ljava/lang/Integer;" (.ref ca)) (BX : Bxs Z ca cc "java/lang/Integer" "I" (256 : Int32) (fun j => .int (j - 128))) (N00 : n0 = h0.size) :
    MetFree l x (head1 (Jvm.Cond.code x code maxLocals ret :: ws) room_1) (fun a U => a = #[(.int p0), (.int p1), (.long q2)] ∧ Z.Warmed39 U.vm ∧ U.heap = h0) (fun _ _ _ _ _ => True) (fun _ U o U' => ∃ v L, o = .returned v ∧ Q0 Z p0 p1 q2 mr ca cc h0 n0 v U'.heap L ∧ FrameEnd U o U' L room_1.cells room_1.slots) := by
  refine MetFree.of_bodySF (plainFor_of_name pn13) hisR ?_
  intro p e s m args below meth c s₁ Bd hml0 hP hK
  obtain ⟨rfl, hZ, hh⟩ := hP
  have hx := Bd.exec
  have hby := Bd.bytes
  have hml : c.maxLocals = 10 := hml0
  have hown : s.vm.findClass "com/example/loopsmith/loopsmith/queue/SlotsLetGoPinLaw" = some m.cls := findClass_of_methodNamed Bd.named
  have hnm := (name_of_methodNamed Bd.named Bd.method).1
  have X0 : Stand p l e room_1 s m #[(.int p0), (.int p1), (.long q2)] below meth c s₁ [] 0 0 := Stand.of_body Bd
  have e0 : s₁.heap = h0 := by rw [← hh, Bd.state]; rfl
  have N0 := Fr.nil n0
  have pre0 : ∀ t, Steps p.tables e below (s₁.setTop (mkF m 0 #[iv p0, iv p1, .val (.long q2), .second, .unset, .unset, .unset, .unset, .unset, .unset] [])) t → Steps p.tables e below (s₁.setTop (entryFrame m #[(.int p0), (.int p1), (.long q2)] maxLocals)) t := fun t k => castTop (ef_0 m p0 p1 q2) k
  have hsz0 : n0 = h0.size := N00
  obtain ⟨T1, h1, X1, e1, E1, A1, D1, -, st1⟩ := newO X0 hx hZ hown (hw _ (List.mem_of_getElem? (i := 0) rfl)) (hw _ (List.mem_of_getElem? (i := 1) rfl)) (hw _ (List.mem_of_getElem? (i := 2) rfl)) e0 (g := (mkF m 0 #[iv p0, iv p1, .val (.long q2), .second, .unset, .unset, .unset, .unset, .unset, .unset] [])) rfl (hb hby at_0) (by decide) (by decide)
  obtain ⟨b1, g1⟩ : ∃ z, z = h0.size := ⟨_, rfl⟩
  rw [← g1] at A1 D1 st1
  have g_b1 : n0 ≤ b1 := Nat.le_trans (Nat.le_trans Z0 (Keep.refl h0 []).1) (Nat.le_of_eq g1.symm)
  have sz_b1 : h0.size ≤ b1 := Nat.le_trans (Keep.refl h0 []).1 (Nat.le_of_eq g1.symm)
  have F_items_b1 : Fld Z h1 b1 "com/example/loopsmith/loopsmith/queue/Slots" "items" "[[Ljava/lang/Object;" .null := D1 (Or.inl (hw _ (List.mem_of_getElem? (i := 12) rfl))) (ty := (.array (.array (.object "java/lang/Object")))) (by decide)
  have F_times_b1 : Fld Z h1 b1 "com/example/loopsmith/loopsmith/queue/Slots" "times" "[[J" .null := D1 (Or.inl (hw _ (List.mem_of_getElem? (i := 16) rfl))) (ty := (.array (.array .long))) (by decide)
  have F_flags_b1 : Fld Z h1 b1 "com/example/loopsmith/loopsmith/queue/Slots" "flags" "[[B" .null := D1 (Or.inl (hw _ (List.mem_of_getElem? (i := 20) rfl))) (ty := (.array (.array .byte))) (by decide)
  have F_capacity_b1 : Fld Z h1 b1 "com/example/loopsmith/loopsmith/queue/Slots" "capacity" "I" (.int (0 : Int32)) := D1 (Or.inl (hw _ (List.mem_of_getElem? (i := 34) rfl))) (ty := .int) (by decide)
  have F_blocks_b1 : Fld Z h1 b1 "com/example/loopsmith/loopsmith/queue/Slots" "blocks" "I" (.int (0 : Int32)) := D1 (Or.inl (hw _ (List.mem_of_getElem? (i := 63) rfl))) (ty := .int) (by decide)
  have K1 : Keep h0 h1 [] := (Keep.refl h0 []).ext E1
  have pre2 : ∀ t, Steps p.tables e below (T1.setTop (mkF m 4 #[iv p0, iv p1, .val (.long q2), .second, .unset, .unset, .unset, .unset, .unset, .unset] [(.ref b1), (.ref b1)])) t → Steps p.tables e below (s₁.setTop (entryFrame m #[(.int p0), (.int p1), (.long q2)] maxLocals)) t := by
    intro t kt
    refine pre0 _ ?_
    show Steps p.tables e below (s₁.setTop (mkF m 0 #[iv p0, iv p1, .val (.long q2), .second, .unset, .unset, .unset, .unset, .unset, .unset] [])) _
    refine st1 _ ?_
    show Steps p.tables e below (T1.setTop (mkF m 3 #[iv p0, iv p1, .val (.long q2), .second, .unset, .unset, .unset, .unset, .unset, .unset] [(.ref b1)])) _
    refine XS.dup X1.here hx rfl (hb hby at_3) rfl rfl ?_
    exact kt
  obtain ⟨_, _, ⟨T3, L3, k3, n3⟩, -, X3, ⟨Lc3, hQ3, l3, y3, z3⟩, st3⟩ := X1.specialBack hx (y := (⟨"com/example/loopsmith/loopsmith/queue/Slots", "<init>", "()V"⟩ : MethodName)) rfl hown (mvT hZ (hw _ (List.mem_of_getElem? (i := 3) rfl))) (mvT hZ (hw _ (List.mem_of_getElem? (i := 4) rfl))) (mvT hZ (hw _ (List.mem_of_getElem? (i := 5) rfl))) (by decide) (backOf (W := 1) (rm1 l Z a0 hw [] b1 h1 n0 (Nat.le_trans Z0 K1.1) F_items_b1 F_times_b1 F_flags_b1 F_blocks_b1 F_capacity_b1 A1 g_b1) hZ (hw _ (List.mem_of_getElem? (i := 5) rfl)) (hw _ (List.mem_of_getElem? (i := 2) rfl)) (by decide) (by decide)) (g := (mkF m 4 #[iv p0, iv p1, .val (.long q2), .second, .unset, .unset, .unset, .unset, .unset, .unset] [(.ref b1), (.ref b1)])) rfl (by rw [hml]; rfl) (Steps.refl _) (a := b1) (argsL := []) (rest := [(.ref b1)]) (lenOf pd6 rfl) rfl (by show 2 * 0 + _ ≤ _; exact Nat.le_of_eq rfl) (hb hby at_4) (fun _ _ => ⟨rfl, e1, (by decide : 1 + 3 ≤ _), (by decide : 5 + 0 ≤ _)⟩)
  dsimp only [Pt.U, Pt.locs, Pt.cells, Pt.slots] at X3 l3 y3 z3 st3 hQ3
  subst l3 y3 z3
  obtain ⟨rfl, N3q, Kc3, ⟨zi3, zt3, zf3, Zi3, Zt3, Zf3⟩, ⟨zw3, Zb3⟩, Zc3⟩ := hQ3
  have N3 := Fr.app N0 N3q
  have K3 : Keep h0 T3.heap [] := K1.trans Kc3 (allS (Or.inr sz_b1) all0)
  have pre4 : ∀ t, Steps p.tables e below (T3.setTop (mkF m 14 #[iv p0, iv p1, .val (.long q2), .second, rv b1, iv (p0 &&& (3 : Int32)), .unset, .unset, .unset, .unset] [])) t → Steps p.tables e below (s₁.setTop (entryFrame m #[(.int p0), (.int p1), (.long q2)] maxLocals)) t := by
    intro t kt
    refine pre2 _ ?_
    show Steps p.tables e below (T1.setTop (mkF m 4 #[iv p0, iv p1, .val (.long q2), .second, .unset, .unset, .unset, .unset, .unset, .unset] [(.ref b1), (.ref b1)])) _
    refine st3.trans ?_
    show Steps p.tables e below (T3.setTop (mkF m 7 #[iv p0, iv p1, .val (.long q2), .second, .unset, .unset, .unset, .unset, .unset, .unset] [(.ref b1)])) _
    refine XS.astore X3.here hx rfl (hb hby at_7) rfl rfl (l' := #[iv p0, iv p1, .val (.long q2), .second, rv b1, .unset, .unset, .unset, .unset, .unset]) rfl ?_
    refine XS.iloadN X3.here hx rfl (hb hby at_9) rfl ?_
    refine XS.iconst X3.here hx rfl (hb hby at_10) ?_
    refine XS.iand X3.here hx rfl (hb hby at_11) rfl ?_
    refine XS.istore X3.here hx rfl (hb hby at_12) rfl (l' := #[iv p0, iv p1, .val (.long q2), .second, rv b1, iv (p0 &&& (3 : Int32)), .unset, .unset, .unset, .unset]) rfl ?_
    exact kt
  rcases own_four p0 with h4 | h4 | h4 | h4
  · have pre5 : ∀ t, Steps p.tables e below (T3.setTop (mkF m 86 #[iv p0, iv p1, .val (.long q2), .second, rv b1, iv (0 : Int32), iv (0 : Int32), iv (0 : Int32), .unset, .unset] [(.int p1)])) t → Steps p.tables e below (s₁.setTop (entryFrame m #[(.int p0), (.int p1), (.long q2)] maxLocals)) t := by
      intro t kt
      refine pre4 _ ?_
      show Steps p.tables e below (T3.setTop (mkF m 14 #[iv p0, iv p1, .val (.long q2), .second, rv b1, iv (p0 &&& (3 : Int32)), .unset, .unset, .unset, .unset] [])) _
      rw [h4]
      show Steps p.tables e below (T3.setTop (mkF m 14 #[iv p0, iv p1, .val (.long q2), .second, rv b1, iv (0 : Int32), .unset, .unset, .unset, .unset] [])) _
      refine XS.iload X3.here hx rfl (hb hby at_14) rfl ?_
      refine XS.iconst X3.here hx rfl (hb hby at_16) ?_
      refine XS.icmpYes X3.here hx rfl (pc0 := 17) (pc' := 25) rfl (hb hby at_17) rfl (tlt (by decide)).1 (by decide) (by decide) ?_
      refine XS.iload X3.here hx rfl (hb hby at_25) rfl ?_
      refine XS.iconst X3.here hx rfl (hb hby at_27) ?_
      refine XS.icmpYes X3.here hx rfl (pc0 := 28) (pc' := 36) rfl (hb hby at_28) rfl (tlt (by decide)).1 (by decide) (by decide) ?_
      show Steps p.tables e below (T3.setTop (mkF m 36 #[iv p0, iv p1, .val (.long q2), .second, rv b1, iv (0 : Int32), .unset, .unset, .unset, .unset] [])) _
      refine XS.iload X3.here hx rfl (hb hby at_36) rfl ?_
      refine XS.iconst X3.here hx rfl (hb hby at_38) ?_
      refine XS.icmpYes X3.here hx rfl (pc0 := 39) (pc' := 47) rfl (hb hby at_39) rfl (tlt (by decide)).1 (by decide) (by decide) ?_
      refine XS.iload X3.here hx rfl (hb hby at_47) rfl ?_
      refine XS.ifNo X3.here hx rfl (hb hby at_49) rfl ((if0 _ _).trans (teq (by decide)).2) ?_
      refine XS.iconst X3.here hx rfl (hb hby at_52) ?_
      show Steps p.tables e below (T3.setTop (mkF m 53 #[iv p0, iv p1, .val (.long q2), .second, rv b1, iv (0 : Int32), .unset, .unset, .unset, .unset] [(.int (0 : Int32))])) _
      refine XS.goto X3.here hx rfl (pc0 := 53) (pc' := 80) rfl (hb hby at_53) (by decide) (by decide) ?_
      refine XS.istore X3.here hx rfl (hb hby at_80) rfl (l' := #[iv p0, iv p1, .val (.long q2), .second, rv b1, iv (0 : Int32), iv (0 : Int32), .unset, .unset, .unset]) rfl ?_
      refine XS.iconst X3.here hx rfl (hb hby at_82) ?_
      refine XS.istore X3.here hx rfl (hb hby at_83) rfl (l' := #[iv p0, iv p1, .val (.long q2), .second, rv b1, iv (0 : Int32), iv (0 : Int32), iv (0 : Int32), .unset, .unset]) rfl ?_
      refine XS.iloadN X3.here hx rfl (hb hby at_85) rfl ?_
      exact kt
    obtain ⟨_, _, ⟨T6, L6, k6, n6⟩, -, X6, ⟨Lc6, hQ6, l6, y6, z6⟩, st6⟩ := Jvm.LawKit.callS X3 hx (y := (⟨"java/lang/Integer", "valueOf", "(I)Ljava/lang/Integer;"⟩ : MethodName)) hown (mvT hZ (hw _ (List.mem_of_getElem? (i := 21) rfl))) (mvT hZ (hw _ (List.mem_of_getElem? (i := 22) rfl))) (mvT hZ (hw _ (List.mem_of_getElem? (i := 23) rfl))) (mvT hZ (hw _ (List.mem_of_getElem? (i := 24) rfl))) (by decide) (backOf (W := 0) (rm3 l Z a0 hw [] p1 ca cc T3.heap n0 (Nat.le_trans Z0 K3.1) (O0.keep K3 all0) S_high S_cache BX) hZ (hw _ (List.mem_of_getElem? (i := 24) rfl)) (hw _ (List.mem_of_getElem? (i := 23) rfl)) (by decide) (by decide)) (g := (mkF m 86 #[iv p0, iv p1, .val (.long q2), .second, rv b1, iv (0 : Int32), iv (0 : Int32), iv (0 : Int32), .unset, .unset] [(.int p1)])) rfl (by rw [hml]; rfl) (argsL := [(.int p1)]) (rest := []) (lenOf pd14 rfl) rfl (by show 2 * 0 + _ ≤ _; exact Nat.le_of_eq rfl) (hb hby at_86) (fun _ _ => ⟨rfl, rfl, (by decide : 4 + 1 ≤ _), (by decide : 5 + 1 ≤ _)⟩)
    dsimp only [Pt.U, Pt.locs, Pt.cells, Pt.slots] at X6 l6 y6 z6 st6 hQ6
    subst l6 y6 z6
    obtain ⟨it6, rfl, N6q, Kc6, Ei6⟩ := hQ6
    have N6 := Fr.app N3 N6q
    have K6 : Keep h0 T6.heap [] := K3.trans Kc6 all0
    have pre7 : ∀ t, Steps p.tables e below (T6.setTop (mkF m 120 #[iv p0, iv p1, .val (.long q2), .second, rv b1, iv (0 : Int32), iv (0 : Int32), iv (0 : Int32), rv it6, .unset] [(.ref b1)])) t → Steps p.tables e below (s₁.setTop (entryFrame m #[(.int p0), (.int p1), (.long q2)] maxLocals)) t := by
      intro t kt
      refine pre5 _ ?_
      show Steps p.tables e below (T3.setTop (mkF m 86 #[iv p0, iv p1, .val (.long q2), .second, rv b1, iv (0 : Int32), iv (0 : Int32), iv (0 : Int32), .unset, .unset] [(.int p1)])) _
      refine st6 _ ?_
      show Steps p.tables e below (T6.setTop (mkF m 89 #[iv p0, iv p1, .val (.long q2), .second, rv b1, iv (0 : Int32), iv (0 : Int32), iv (0 : Int32), .unset, .unset] [(.ref it6)])) _
      refine XS.astore X6.here hx rfl (hb hby at_89) rfl rfl (l' := #[iv p0, iv p1, .val (.long q2), .second, rv b1, iv (0 : Int32), iv (0 : Int32), iv (0 : Int32), rv it6, .unset]) rfl ?_
      refine XS.iload X6.here hx rfl (hb hby at_91) rfl ?_
      refine XS.ifYes X6.here hx rfl (pc0 := 93) (pc' := 118) rfl (hb hby at_93) rfl ((if0 _ _).trans (flt (by decide)).2.2.2) (by decide) (by decide) ?_
      refine XS.aload X6.here hx rfl (hb hby at_118) rfl rfl ?_
      exact kt
    obtain ⟨cq8, kq8, q8a, q8b, q8c⟩ := isOf hZ rfl ((A1.keep Kc3).keep Kc6)
    obtain ⟨_, _, ⟨T8, L8, k8, n8⟩, -, X8, ⟨Lc8, hQ8, l8, y8, z8⟩, st8⟩ := X6.virtualBack hx (y := (⟨"com/example/loopsmith/loopsmith/queue/Slots", "letGo", "()V"⟩ : MethodName)) (z := (⟨"com/example/loopsmith/loopsmith/queue/Slots", "letGo", "()V"⟩ : MethodName)) hown (mvT hZ (hw _ (List.mem_of_getElem? (i := 28) rfl))) (mvT hZ (hw _ (List.mem_of_getElem? (i := 29) rfl))) (notFace_of_selects (args := #[]) (mvT hZ (hw _ (List.mem_of_getElem? (i := 31) rfl)))) (mvT hZ (hw _ (List.mem_of_getElem? (i := 31) rfl))) (mvT hZ (hw _ (List.mem_of_getElem? (i := 30) rfl))) (by decide) (backOf (W := 0) (rm4c0 l Z a0 hw [] b1 T6.heap n0 (Nat.le_trans Z0 K6.1) (Zc3.keep Kc6 nin0)) hZ (hw _ (List.mem_of_getElem? (i := 32) rfl)) (hw _ (List.mem_of_getElem? (i := 2) rfl)) (by decide) (by decide)) q8a q8c (g := (mkF m 120 #[iv p0, iv p1, .val (.long q2), .second, rv b1, iv (0 : Int32), iv (0 : Int32), iv (0 : Int32), rv it6, .unset] [(.ref b1)])) rfl (by rw [hml]; rfl) (Steps.refl _) (argsL := []) (rest := []) (lenOf pd6 rfl) rfl (by show 2 * 0 + _ ≤ _; exact Nat.le_of_eq rfl) (hb hby at_120) (fun _ _ => ⟨rfl, rfl, (by decide : 5 + 0 ≤ _), (by decide : 6 + 0 ≤ _)⟩)
    dsimp only [Pt.U, Pt.locs, Pt.cells, Pt.slots] at X8 l8 y8 z8 st8 hQ8
    subst l8 y8 z8
    obtain ⟨rfl, N8q, hh8⟩ := hQ8
    have N8 := Fr.app N6 N8q
    have pre9 : ∀ t, Steps p.tables e below (T8.setTop (mkF m 132 #[iv p0, iv p1, .val (.long q2), .second, rv b1, iv (0 : Int32), iv (0 : Int32), iv (0 : Int32), rv it6, .unset] [(.ref b1)])) t → Steps p.tables e below (s₁.setTop (entryFrame m #[(.int p0), (.int p1), (.long q2)] maxLocals)) t := by
      intro t kt
      refine pre7 _ ?_
      show Steps p.tables e below (T6.setTop (mkF m 120 #[iv p0, iv p1, .val (.long q2), .second, rv b1, iv (0 : Int32), iv (0 : Int32), iv (0 : Int32), rv it6, .unset] [(.ref b1)])) _
      refine st8.trans ?_
      show Steps p.tables e below (T8.setTop (mkF m 123 #[iv p0, iv p1, .val (.long q2), .second, rv b1, iv (0 : Int32), iv (0 : Int32), iv (0 : Int32), rv it6, .unset] [])) _
      refine XS.iload X8.here hx rfl (hb hby at_123) rfl ?_
      refine XS.bipush X8.here hx rfl (hb hby at_125) ?_
      refine XS.icmpNo X8.here hx rfl (hb hby at_127) rfl (flt (by decide)).2.2.1 ?_
      refine XS.aload X8.here hx rfl (hb hby at_130) rfl rfl ?_
      exact kt
    obtain ⟨cq10, kq10, q10a, q10b, q10c⟩ := isOf hZ hh8 ((A1.keep Kc3).keep Kc6)
    obtain ⟨_, _, ⟨T10, L10, k10, n10⟩, -, X10, ⟨Lc10, hQ10, l10, y10, z10⟩, st10⟩ := X8.virtualBack hx (y := (⟨"com/example/loopsmith/loopsmith/queue/Slots", "capacity", "()I"⟩ : MethodName)) (z := (⟨"com/example/loopsmith/loopsmith/queue/Slots", "capacity", "()I"⟩ : MethodName)) hown (mvT hZ (hw _ (List.mem_of_getElem? (i := 35) rfl))) (mvT hZ (hw _ (List.mem_of_getElem? (i := 36) rfl))) (notFace_of_selects (args := #[]) (mvT hZ (hw _ (List.mem_of_getElem? (i := 38) rfl)))) (mvT hZ (hw _ (List.mem_of_getElem? (i := 38) rfl))) (mvT hZ (hw _ (List.mem_of_getElem? (i := 37) rfl))) (by decide) (backOf (W := 0) (rm5 l Z a0 hw [] b1 (0 : Int32) T6.heap n0 (Nat.le_trans Z0 K6.1) (Zc3.keep Kc6 nin0)) hZ (hw _ (List.mem_of_getElem? (i := 39) rfl)) (hw _ (List.mem_of_getElem? (i := 2) rfl)) (by decide) (by decide)) q10a q10c (g := (mkF m 132 #[iv p0, iv p1, .val (.long q2), .second, rv b1, iv (0 : Int32), iv (0 : Int32), iv (0 : Int32), rv it6, .unset] [(.ref b1)])) rfl (by rw [hml]; rfl) (Steps.refl _) (argsL := []) (rest := []) (lenOf pd5 rfl) rfl (by show 2 * 0 + _ ≤ _; exact Nat.le_of_eq rfl) (hb hby at_132) (fun _ _ => ⟨rfl, hh8, (by decide : 5 + 0 ≤ _), (by decide : 6 + 0 ≤ _)⟩)
    dsimp only [Pt.U, Pt.locs, Pt.cells, Pt.slots] at X10 l10 y10 z10 st10 hQ10
    subst l10 y10 z10
    obtain ⟨rfl, N10q, hh10⟩ := hQ10
    have N10 := Fr.app N8 N10q
    have pre11 : ∀ t, Steps p.tables e below (T10.setTop (mkF m 148 #[iv p0, iv p1, .val (.long q2), .second, rv b1, iv (0 : Int32), iv (0 : Int32), iv (0 : Int32), rv it6, .unset] [(.int (1 : Int32))])) t → Steps p.tables e below (s₁.setTop (entryFrame m #[(.int p0), (.int p1), (.long q2)] maxLocals)) t := by
      intro t kt
      refine pre9 _ ?_
      show Steps p.tables e below (T8.setTop (mkF m 132 #[iv p0, iv p1, .val (.long q2), .second, rv b1, iv (0 : Int32), iv (0 : Int32), iv (0 : Int32), rv it6, .unset] [(.ref b1)])) _
      refine st10.trans ?_
      show Steps p.tables e below (T10.setTop (mkF m 135 #[iv p0, iv p1, .val (.long q2), .second, rv b1, iv (0 : Int32), iv (0 : Int32), iv (0 : Int32), rv it6, .unset] [(.int (0 : Int32))])) _
      refine XS.iload X10.here hx rfl (hb hby at_135) rfl ?_
      refine XS.icmpYes X10.here hx rfl (pc0 := 137) (pc' := 142) rfl (hb hby at_137) rfl (teq (by decide)).1 (by decide) (by decide) ?_
      refine XS.iload X10.here hx rfl (hb hby at_142) rfl ?_
      refine XS.ifNo X10.here hx rfl (hb hby at_144) rfl ((if0 _ _).trans (teq (by decide)).2) ?_
      refine XS.iconst X10.here hx rfl (hb hby at_147) ?_
      exact kt
    obtain ⟨fs, hr, hrun, hended, hW, hsame⟩ := X10.leave (v := some (.int (1 : Int32))) (fun h => by rw [Bd.returns] at h; cases h)
    refine ⟨_, _, pre11 _ ?_, hrun, hended, _, _, rfl, ?_, ⟨_, rfl⟩, hW, hsame.mono (by decide) (by decide)⟩
    · show Steps p.tables e below (T10.setTop (mkF m 148 #[iv p0, iv p1, .val (.long q2), .second, rv b1, iv (0 : Int32), iv (0 : Int32), iv (0 : Int32), rv it6, .unset] [(.int (1 : Int32))])) _
      exact retN X10 hx (t := .boolean) Bd.returns (by simp) (hb hby at_148) hr
    · show Q0 Z p0 p1 q2 mr ca cc h0 n0 _ T10.heap _
      rw [hh10]
      exact ⟨rfl, N10⟩
  · have pre12 : ∀ t, Steps p.tables e below (T3.setTop (mkF m 22 #[iv p0, iv p1, .val (.long q2), .second, rv b1, iv (1 : Int32), .unset, .unset, .unset, .unset] [(.ref b1)])) t → Steps p.tables e below (s₁.setTop (entryFrame m #[(.int p0), (.int p1), (.long q2)] maxLocals)) t := by
      intro t kt
      refine pre4 _ ?_
      show Steps p.tables e below (T3.setTop (mkF m 14 #[iv p0, iv p1, .val (.long q2), .second, rv b1, iv (p0 &&& (3 : Int32)), .unset, .unset, .unset, .unset] [])) _
      rw [h4]
      show Steps p.tables e below (T3.setTop (mkF m 14 #[iv p0, iv p1, .val (.long q2), .second, rv b1, iv (1 : Int32), .unset, .unset, .unset, .unset] [])) _
      refine XS.iload X3.here hx rfl (hb hby at_14) rfl ?_
      refine XS.iconst X3.here hx rfl (hb hby at_16) ?_
      refine XS.icmpNo X3.here hx rfl (hb hby at_17) rfl (flt (by decide)).1 ?_
      refine XS.aload X3.here hx rfl (hb hby at_20) rfl rfl ?_
      exact kt
    obtain ⟨cq13, kq13, q13a, q13b, q13c⟩ := isOf hZ rfl (A1.keep Kc3)
    obtain ⟨_, _, ⟨T13, L13, k13, n13⟩, -, X13, ⟨Lc13, hQ13, l13, y13, z13⟩, st13⟩ := X3.virtualBack hx (y := (⟨"com/example/loopsmith/loopsmith/queue/Slots", "grow", "()V"⟩ : MethodName)) (z := (⟨"com/example/loopsmith/loopsmith/queue/Slots", "grow", "()V"⟩ : MethodName)) hown (mvT hZ (hw _ (List.mem_of_getElem? (i := 40) rfl))) (mvT hZ (hw _ (List.mem_of_getElem? (i := 41) rfl))) (notFace_of_selects (args := #[]) (mvT hZ (hw _ (List.mem_of_getElem? (i := 43) rfl)))) (mvT hZ (hw _ (List.mem_of_getElem? (i := 43) rfl))) (mvT hZ (hw _ (List.mem_of_getElem? (i := 42) rfl))) (by decide) (backOf (W := 0) (rm6c0 l Z a0 hw [] b1 zi3 zt3 zf3 zw3 T3.heap n0 (Nat.le_trans Z0 K3.1) Zi3 Zt3 Zf3 Zb3 Zc3 (A1.keep Kc3) g_b1) hZ (hw _ (List.mem_of_getElem? (i := 44) rfl)) (hw _ (List.mem_of_getElem? (i := 2) rfl)) (by decide) (by decide)) q13a q13c (g := (mkF m 22 #[iv p0, iv p1, .val (.long q2), .second, rv b1, iv (1 : Int32), .unset, .unset, .unset, .unset] [(.ref b1)])) rfl (by rw [hml]; rfl) (Steps.refl _) (argsL := []) (rest := []) (lenOf pd6 rfl) rfl (by show 2 * 0 + _ ≤ _; exact Nat.le_of_eq rfl) (hb hby at_22) (fun _ _ => ⟨rfl, rfl, (by decide : 4 + 6 ≤ _), (by decide : 5 + 83 ≤ _)⟩)
    dsimp only [Pt.U, Pt.locs, Pt.cells, Pt.slots] at X13 l13 y13 z13 st13 hQ13
    subst l13 y13 z13
    obtain ⟨I1_13, T1_13, F1_13, i2_13, t2_13, f2_13, kI_13, kT_13, kF_13, ki_13, kt_13, kf_13, rfl, N13q, Kc13, hg13, Sl13⟩ := hQ13
    have N13 := Fr.app N3 N13q
    have K13 : Keep h0 T13.heap [] := K3.trans Kc13 (allS (Or.inr sz_b1) all0)
    obtain ⟨g_I1_13, g_T1_13, g_F1_13, g_i2_13, g_t2_13, g_f2_13⟩ := hg13
    obtain ⟨Sit13, Sti13, Sfl13, ⟨wb13, Sbl13⟩, Sca13, SeI113, SeT113, SeF113, Sei213, Set213, Sef213, SvI113, SvT113, SvF113, Svi213, Svt213, Svf213, SoI113, SoT113, SoF113, Soi213⟩ := id Sl13
    have sz_I1_13 : h0.size ≤ I1_13 := by rw [← hsz0]; exact g_I1_13
    have sz_T1_13 : h0.size ≤ T1_13 := by rw [← hsz0]; exact g_T1_13
    have sz_F1_13 : h0.size ≤ F1_13 := by rw [← hsz0]; exact g_F1_13
    have sz_i2_13 : h0.size ≤ i2_13 := by rw [← hsz0]; exact g_i2_13
    have sz_t2_13 : h0.size ≤ t2_13 := by rw [← hsz0]; exact g_t2_13
    have sz_f2_13 : h0.size ≤ f2_13 := by rw [← hsz0]; exact g_f2_13
    have pre14 : ∀ t, Steps p.tables e below (T13.setTop (mkF m 86 #[iv p0, iv p1, .val (.long q2), .second, rv b1, iv (1 : Int32), iv (16 : Int32), iv (0 : Int32), .unset, .unset] [(.int p1)])) t → Steps p.tables e below (s₁.setTop (entryFrame m #[(.int p0), (.int p1), (.long q2)] maxLocals)) t := by
      intro t kt
      refine pre12 _ ?_
      show Steps p.tables e below (T3.setTop (mkF m 22 #[iv p0, iv p1, .val (.long q2), .second, rv b1, iv (1 : Int32), .unset, .unset, .unset, .unset] [(.ref b1)])) _
      refine st13.trans ?_
      show Steps p.tables e below (T13.setTop (mkF m 25 #[iv p0, iv p1, .val (.long q2), .second, rv b1, iv (1 : Int32), .unset, .unset, .unset, .unset] [])) _
      refine XS.iload X13.here hx rfl (hb hby at_25) rfl ?_
      refine XS.iconst X13.here hx rfl (hb hby at_27) ?_
      refine XS.icmpYes X13.here hx rfl (pc0 := 28) (pc' := 36) rfl (hb hby at_28) rfl (tlt (by decide)).1 (by decide) (by decide) ?_
      refine XS.iload X13.here hx rfl (hb hby at_36) rfl ?_
      refine XS.iconst X13.here hx rfl (hb hby at_38) ?_
      refine XS.icmpYes X13.here hx rfl (pc0 := 39) (pc' := 47) rfl (hb hby at_39) rfl (tlt (by decide)).1 (by decide) (by decide) ?_
      show Steps p.tables e below (T13.setTop (mkF m 47 #[iv p0, iv p1, .val (.long q2), .second, rv b1, iv (1 : Int32), .unset, .unset, .unset, .unset] [])) _
      refine XS.iload X13.here hx rfl (hb hby at_47) rfl ?_
      refine XS.ifYes X13.here hx rfl (pc0 := 49) (pc' := 56) rfl (hb hby at_49) rfl ((if0 _ _).trans (feq (by decide)).2) (by decide) (by decide) ?_
      refine XS.iload X13.here hx rfl (hb hby at_56) rfl ?_
      refine XS.iconst X13.here hx rfl (hb hby at_58) ?_
      refine XS.icmpNo X13.here hx rfl (hb hby at_59) rfl (teq (by decide)).2 ?_
      refine XS.bipush X13.here hx rfl (hb hby at_62) ?_
      show Steps p.tables e below (T13.setTop (mkF m 64 #[iv p0, iv p1, .val (.long q2), .second, rv b1, iv (1 : Int32), .unset, .unset, .unset, .unset] [(.int (16 : Int32))])) _
      refine XS.goto X13.here hx rfl (pc0 := 64) (pc' := 80) rfl (hb hby at_64) (by decide) (by decide) ?_
      refine XS.istore X13.here hx rfl (hb hby at_80) rfl (l' := #[iv p0, iv p1, .val (.long q2), .second, rv b1, iv (1 : Int32), iv (16 : Int32), .unset, .unset, .unset]) rfl ?_
      refine XS.iconst X13.here hx rfl (hb hby at_82) ?_
      refine XS.istore X13.here hx rfl (hb hby at_83) rfl (l' := #[iv p0, iv p1, .val (.long q2), .second, rv b1, iv (1 : Int32), iv (16 : Int32), iv (0 : Int32), .unset, .unset]) rfl ?_
      refine XS.iloadN X13.here hx rfl (hb hby at_85) rfl ?_
      exact kt
    obtain ⟨_, _, ⟨T15, L15, k15, n15⟩, -, X15, ⟨Lc15, hQ15, l15, y15, z15⟩, st15⟩ := Jvm.LawKit.callS X13 hx (y := (⟨"java/lang/Integer", "valueOf", "(I)Ljava/lang/Integer;"⟩ : MethodName)) hown (mvT hZ (hw _ (List.mem_of_getElem? (i := 21) rfl))) (mvT hZ (hw _ (List.mem_of_getElem? (i := 22) rfl))) (mvT hZ (hw _ (List.mem_of_getElem? (i := 23) rfl))) (mvT hZ (hw _ (List.mem_of_getElem? (i := 24) rfl))) (by decide) (backOf (W := 0) (rm3 l Z a0 hw [] p1 ca cc T13.heap n0 (Nat.le_trans Z0 K13.1) (O0.keep K13 all0) S_high S_cache BX) hZ (hw _ (List.mem_of_getElem? (i := 24) rfl)) (hw _ (List.mem_of_getElem? (i := 23) rfl)) (by decide) (by decide)) (g := (mkF m 86 #[iv p0, iv p1, .val (.long q2), .second, rv b1, iv (1 : Int32), iv (16 : Int32), iv (0 : Int32), .unset, .unset] [(.int p1)])) rfl (by rw [hml]; rfl) (argsL := [(.int p1)]) (rest := []) (lenOf pd14 rfl) rfl (by show 2 * 0 + _ ≤ _; exact Nat.le_of_eq rfl) (hb hby at_86) (fun _ _ => ⟨rfl, rfl, (by decide : 10 + 1 ≤ _), (by decide : 88 + 1 ≤ _)⟩)
    dsimp only [Pt.U, Pt.locs, Pt.cells, Pt.slots] at X15 l15 y15 z15 st15 hQ15
    subst l15 y15 z15
    obtain ⟨it15, rfl, N15q, Kc15, Ei15⟩ := hQ15
    have N15 := Fr.app N13 N15q
    have K15 : Keep h0 T15.heap [] := K13.trans Kc15 all0
    obtain ⟨vat, h_vat⟩ : ∃ z : Int32, z = ((p1 &&& (2147483647 : Int32)) % (16 : Int32)) := ⟨_, rfl⟩
    have pre16 : ∀ t, Steps p.tables e below (T15.setTop (mkF m 115 #[iv p0, iv p1, .val (.long q2), .second, rv b1, iv (1 : Int32), iv (16 : Int32), iv vat, rv it15, .unset] [(.int (0 : Int32)), (.long (0 : Int64)), (.long q2), .null, (.ref it15), (.int vat), (.ref b1)])) t → Steps p.tables e below (s₁.setTop (entryFrame m #[(.int p0), (.int p1), (.long q2)] maxLocals)) t := by
      intro t kt
      refine pre14 _ ?_
      show Steps p.tables e below (T13.setTop (mkF m 86 #[iv p0, iv p1, .val (.long q2), .second, rv b1, iv (1 : Int32), iv (16 : Int32), iv (0 : Int32), .unset, .unset] [(.int p1)])) _
      refine st15 _ ?_
      show Steps p.tables e below (T15.setTop (mkF m 89 #[iv p0, iv p1, .val (.long q2), .second, rv b1, iv (1 : Int32), iv (16 : Int32), iv (0 : Int32), .unset, .unset] [(.ref it15)])) _
      refine XS.astore X15.here hx rfl (hb hby at_89) rfl rfl (l' := #[iv p0, iv p1, .val (.long q2), .second, rv b1, iv (1 : Int32), iv (16 : Int32), iv (0 : Int32), rv it15, .unset]) rfl ?_
      refine XS.iload X15.here hx rfl (hb hby at_91) rfl ?_
      refine XS.ifNo X15.here hx rfl (hb hby at_93) rfl ((if0 _ _).trans (tlt (by decide)).2.2.2) ?_
      refine XS.iloadN X15.here hx rfl (hb hby at_96) rfl ?_
      refine X15.ldcInt hx hown (mvT hZ (hw _ (List.mem_of_getElem? (i := 107) rfl))) (g := (mkF m 97 #[iv p0, iv p1, .val (.long q2), .second, rv b1, iv (1 : Int32), iv (16 : Int32), iv (0 : Int32), rv it15, .unset] [(.int p1)])) rfl (hb hby at_97) _ ?_
      show Steps p.tables e below (T15.setTop (mkF m 99 #[iv p0, iv p1, .val (.long q2), .second, rv b1, iv (1 : Int32), iv (16 : Int32), iv (0 : Int32), rv it15, .unset] [(.int (2147483647 : Int32)), (.int p1)])) _
      refine XS.iand X15.here hx rfl (hb hby at_99) rfl ?_
      refine XS.iload X15.here hx rfl (hb hby at_100) rfl ?_
      refine iremM X15 hx rfl (hb hby at_102) rfl (by decide) ?_
      show Steps p.tables e below (T15.setTop (mkF m 103 #[iv p0, iv p1, .val (.long q2), .second, rv b1, iv (1 : Int32), iv (16 : Int32), iv (0 : Int32), rv it15, .unset] [(.int ((p1 &&& (2147483647 : Int32)) % (16 : Int32)))])) _
      refine XS.istore X15.here hx rfl (hb hby at_103) rfl (l' := #[iv p0, iv p1, .val (.long q2), .second, rv b1, iv (1 : Int32), iv (16 : Int32), iv ((p1 &&& (2147483647 : Int32)) % (16 : Int32)), rv it15, .unset]) rfl ?_
      show Steps p.tables e below (T15.setTop (mkF m 105 #[iv p0, iv p1, .val (.long q2), .second, rv b1, iv (1 : Int32), iv (16 : Int32), iv ((p1 &&& (2147483647 : Int32)) % (16 : Int32)), rv it15, .unset] [])) _
      rw [← h_vat]
      show Steps p.tables e below (T15.setTop (mkF m 105 #[iv p0, iv p1, .val (.long q2), .second, rv b1, iv (1 : Int32), iv (16 : Int32), iv vat, rv it15, .unset] [])) _
      refine XS.aload X15.here hx rfl (hb hby at_105) rfl rfl ?_
      refine XS.iload X15.here hx rfl (hb hby at_107) rfl ?_
      refine XS.aload X15.here hx rfl (hb hby at_109) rfl rfl ?_
      refine XS.aconstNull X15.here hx rfl (hb hby at_111) ?_
      refine XS.lloadN X15.here hx rfl (hb hby at_112) rfl ?_
      refine XS.lconst X15.here hx rfl (hb hby at_113) ?_
      show Steps p.tables e below (T15.setTop (mkF m 114 #[iv p0, iv p1, .val (.long q2), .second, rv b1, iv (1 : Int32), iv (16 : Int32), iv vat, rv it15, .unset] [(.long (0 : Int64)), (.long q2), .null, (.ref it15), (.int vat), (.ref b1)])) _
      refine XS.iconst X15.here hx rfl (hb hby at_114) ?_
      exact kt
    obtain ⟨cq17, kq17, q17a, q17b, q17c⟩ := isOf hZ rfl (((A1.keep Kc3).keep Kc13).keep Kc15)
    obtain ⟨_, _, ⟨T17, L17, k17, n17⟩, -, X17, ⟨Lc17, hQ17, l17, y17, z17⟩, st17⟩ := X15.virtualBack hx (y := (⟨"com/example/loopsmith/loopsmith/queue/Slots", "set", "(ILjava/lang/Object;Lcom/example/loopsmith/loopsmith/queue/Message$Target;JJB)V"⟩ : MethodName)) (z := (⟨"com/example/loopsmith/loopsmith/queue/Slots", "set", "(ILjava/lang/Object;Lcom/example/loopsmith/loopsmith/queue/Message$Target;JJB)V"⟩ : MethodName)) hown (mvT hZ (hw _ (List.mem_of_getElem? (i := 108) rfl))) (mvT hZ (hw _ (List.mem_of_getElem? (i := 109) rfl))) (notFace_of_selects (args := #[]) (mvT hZ (hw _ (List.mem_of_getElem? (i := 111) rfl)))) (mvT hZ (hw _ (List.mem_of_getElem? (i := 111) rfl))) (mvT hZ (hw _ (List.mem_of_getElem? (i := 110) rfl))) (by decide) (backOf (W := 0) (rm16c16 l Z a0 hw [] b1 vat it15 q2 I1_13 T1_13 F1_13 i2_13 t2_13 f2_13 kI_13 kT_13 kF_13 ki_13 kt_13 kf_13 T15.heap n0 (Nat.le_trans Z0 K15.1) ⟨(Sit13.keep Kc15 nin0), (Sti13.keep Kc15 nin0), (Sfl13.keep Kc15 nin0), ⟨_, (Sbl13.keep Kc15 nin0)⟩, (Sca13.keep Kc15 nin0), (SeI113.keep Kc15), (SeT113.keep Kc15), (SeF113.keep Kc15), (Sei213.keep Kc15), (Set213.keep Kc15), (Sef213.keep Kc15), (SvI113.keep Kc15 nin0), (SvT113.keep Kc15 nin0), (SvF113.keep Kc15 nin0), (Svi213.keep Kc15 nin0), (Svt213.keep Kc15 nin0), (Svf213.keep Kc15 nin0), SoI113, SoT113, SoF113, Soi213⟩ (((A1.keep Kc3).keep Kc13).keep Kc15) g_b1 g_I1_13 g_T1_13 g_F1_13 g_i2_13 g_t2_13 g_f2_13 Ei15 (O0.keep K15 all0) S_bb (by rw [h_vat]; exact own_rem p1 (16 : Int32) 16 (by decide) (by decide))) hZ (hw _ (List.mem_of_getElem? (i := 112) rfl)) (hw _ (List.mem_of_getElem? (i := 2) rfl)) (by decide) (by decide)) q17a q17c (g := (mkF m 115 #[iv p0, iv p1, .val (.long q2), .second, rv b1, iv (1 : Int32), iv (16 : Int32), iv vat, rv it15, .unset] [(.int (0 : Int32)), (.long (0 : Int64)), (.long q2), .null, (.ref it15), (.int vat), (.ref b1)])) rfl (by rw [hml]; rfl) (Steps.refl _) (argsL := [(.int vat), (.ref it15), .null, (.long q2), (.long (0 : Int64)), (.int (0 : Int32))]) (rest := []) (lenOf pd15 rfl) rfl (by show 2 * 0 + _ ≤ _; exact Nat.le_of_eq rfl) (hb hby at_115) (fun _ _ => ⟨rfl, rfl, (by decide : 11 + 0 ≤ _), (by decide : 89 + 0 ≤ _)⟩)
    dsimp only [Pt.U, Pt.locs, Pt.cells, Pt.slots] at X17 l17 y17 z17 st17 hQ17
    subst l17 y17 z17
    obtain ⟨rfl, N17q, Kc17, Hi17, Ht17⟩ := hQ17
    have N17 := Fr.app N15 N17q
    have K17 : Keep h0 T17.heap [] := K15.trans Kc17 (allS (Or.inr sz_i2_13) (allS (Or.inr sz_t2_13) (allS (Or.inr sz_f2_13) all0)))
    have pre18 : ∀ t, Steps p.tables e below (T17.setTop (mkF m 120 #[iv p0, iv p1, .val (.long q2), .second, rv b1, iv (1 : Int32), iv (16 : Int32), iv vat, rv it15, .unset] [(.ref b1)])) t → Steps p.tables e below (s₁.setTop (entryFrame m #[(.int p0), (.int p1), (.long q2)] maxLocals)) t := by
      intro t kt
      refine pre16 _ ?_
      show Steps p.tables e below (T15.setTop (mkF m 115 #[iv p0, iv p1, .val (.long q2), .second, rv b1, iv (1 : Int32), iv (16 : Int32), iv vat, rv it15, .unset] [(.int (0 : Int32)), (.long (0 : Int64)), (.long q2), .null, (.ref it15), (.int vat), (.ref b1)])) _
      refine st17.trans ?_
      show Steps p.tables e below (T17.setTop (mkF m 118 #[iv p0, iv p1, .val (.long q2), .second, rv b1, iv (1 : Int32), iv (16 : Int32), iv vat, rv it15, .unset] [])) _
      refine XS.aload X17.here hx rfl (hb hby at_118) rfl rfl ?_
      exact kt
    obtain ⟨cq19, kq19, q19a, q19b, q19c⟩ := isOf hZ rfl ((((A1.keep Kc3).keep Kc13).keep Kc15).keep Kc17)
    obtain ⟨_, _, ⟨T19, L19, k19, n19⟩, -, X19, ⟨Lc19, hQ19, l19, y19, z19⟩, st19⟩ := X17.virtualBack hx (y := (⟨"com/example/loopsmith/loopsmith/queue/Slots", "letGo", "()V"⟩ : MethodName)) (z := (⟨"com/example/loopsmith/loopsmith/queue/Slots", "letGo", "()V"⟩ : MethodName)) hown (mvT hZ (hw _ (List.mem_of_getElem? (i := 28) rfl))) (mvT hZ (hw _ (List.mem_of_getElem? (i := 29) rfl))) (notFace_of_selects (args := #[]) (mvT hZ (hw _ (List.mem_of_getElem? (i := 31) rfl)))) (mvT hZ (hw _ (List.mem_of_getElem? (i := 31) rfl))) (mvT hZ (hw _ (List.mem_of_getElem? (i := 30) rfl))) (by decide) (backOf (W := 0) (rm4c16 l Z a0 hw [] b1 T17.heap n0 (Nat.le_trans Z0 K17.1) ((Sca13.keep Kc15 nin0).keep Kc17 (ninS (Exa.ne ((((A1.keep Kc3).keep Kc13).keep Kc15).keep Kc17) ((Sei213.keep Kc15).keep Kc17) (by decide)) (ninS (Exa.ne ((((A1.keep Kc3).keep Kc13).keep Kc15).keep Kc17) ((Set213.keep Kc15).keep Kc17) (by decide)) (ninS (Exa.ne ((((A1.keep Kc3).keep Kc13).keep Kc15).keep Kc17) ((Sef213.keep Kc15).keep Kc17) (by decide)) nin0))))) hZ (hw _ (List.mem_of_getElem? (i := 32) rfl)) (hw _ (List.mem_of_getElem? (i := 2) rfl)) (by decide) (by decide)) q19a q19c (g := (mkF m 120 #[iv p0, iv p1, .val (.long q2), .second, rv b1, iv (1 : Int32), iv (16 : Int32), iv vat, rv it15, .unset] [(.ref b1)])) rfl (by rw [hml]; rfl) (Steps.refl _) (argsL := []) (rest := []) (lenOf pd6 rfl) rfl (by show 2 * 0 + _ ≤ _; exact Nat.le_of_eq rfl) (hb hby at_120) (fun _ _ => ⟨rfl, rfl, (by decide : 11 + 0 ≤ _), (by decide : 89 + 0 ≤ _)⟩)
    dsimp only [Pt.U, Pt.locs, Pt.cells, Pt.slots] at X19 l19 y19 z19 st19 hQ19
    subst l19 y19 z19
    obtain ⟨rfl, N19q, hh19⟩ := hQ19
    have N19 := Fr.app N17 N19q
    have pre20 : ∀ t, Steps p.tables e below (T19.setTop (mkF m 132 #[iv p0, iv p1, .val (.long q2), .second, rv b1, iv (1 : Int32), iv (16 : Int32), iv vat, rv it15, .unset] [(.ref b1)])) t → Steps p.tables e below (s₁.setTop (entryFrame m #[(.int p0), (.int p1), (.long q2)] maxLocals)) t := by
      intro t kt
      refine pre18 _ ?_
      show Steps p.tables e below (T17.setTop (mkF m 120 #[iv p0, iv p1, .val (.long q2), .second, rv b1, iv (1 : Int32), iv (16 : Int32), iv vat, rv it15, .unset] [(.ref b1)])) _
      refine st19.trans ?_
      show Steps p.tables e below (T19.setTop (mkF m 123 #[iv p0, iv p1, .val (.long q2), .second, rv b1, iv (1 : Int32), iv (16 : Int32), iv vat, rv it15, .unset] [])) _
      refine XS.iload X19.here hx rfl (hb hby at_123) rfl ?_
      refine XS.bipush X19.here hx rfl (hb hby at_125) ?_
      refine XS.icmpNo X19.here hx rfl (hb hby at_127) rfl (flt (by decide)).2.2.1 ?_
      refine XS.aload X19.here hx rfl (hb hby at_130) rfl rfl ?_
      exact kt
    obtain ⟨cq21, kq21, q21a, q21b, q21c⟩ := isOf hZ hh19 ((((A1.keep Kc3).keep Kc13).keep Kc15).keep Kc17)
    obtain ⟨_, _, ⟨T21, L21, k21, n21⟩, -, X21, ⟨Lc21, hQ21, l21, y21, z21⟩, st21⟩ := X19.virtualBack hx (y := (⟨"com/example/loopsmith/loopsmith/queue/Slots", "capacity", "()I"⟩ : MethodName)) (z := (⟨"com/example/loopsmith/loopsmith/queue/Slots", "capacity", "()I"⟩ : MethodName)) hown (mvT hZ (hw _ (List.mem_of_getElem? (i := 35) rfl))) (mvT hZ (hw _ (List.mem_of_getElem? (i := 36) rfl))) (notFace_of_selects (args := #[]) (mvT hZ (hw _ (List.mem_of_getElem? (i := 38) rfl)))) (mvT hZ (hw _ (List.mem_of_getElem? (i := 38) rfl))) (mvT hZ (hw _ (List.mem_of_getElem? (i := 37) rfl))) (by decide) (backOf (W := 0) (rm5 l Z a0 hw [] b1 (16 : Int32) T17.heap n0 (Nat.le_trans Z0 K17.1) ((Sca13.keep Kc15 nin0).keep Kc17 (ninS (Exa.ne ((((A1.keep Kc3).keep Kc13).keep Kc15).keep Kc17) ((Sei213.keep Kc15).keep Kc17) (by decide)) (ninS (Exa.ne ((((A1.keep Kc3).keep Kc13).keep Kc15).keep Kc17) ((Set213.keep Kc15).keep Kc17) (by decide)) (ninS (Exa.ne ((((A1.keep Kc3).keep Kc13).keep Kc15).keep Kc17) ((Sef213.keep Kc15).keep Kc17) (by decide)) nin0))))) hZ (hw _ (List.mem_of_getElem? (i := 39) rfl)) (hw _ (List.mem_of_getElem? (i := 2) rfl)) (by decide) (by decide)) q21a q21c (g := (mkF m 132 #[iv p0, iv p1, .val (.long q2), .second, rv b1, iv (1 : Int32), iv (16 : Int32), iv vat, rv it15, .unset] [(.ref b1)])) rfl (by rw [hml]; rfl) (Steps.refl _) (argsL := []) (rest := []) (lenOf pd5 rfl) rfl (by show 2 * 0 + _ ≤ _; exact Nat.le_of_eq rfl) (hb hby at_132) (fun _ _ => ⟨rfl, hh19, (by decide : 11 + 0 ≤ _), (by decide : 89 + 0 ≤ _)⟩)
    dsimp only [Pt.U, Pt.locs, Pt.cells, Pt.slots] at X21 l21 y21 z21 st21 hQ21
    subst l21 y21 z21
    obtain ⟨rfl, N21q, hh21⟩ := hQ21
    have N21 := Fr.app N19 N21q
    have pre22 : ∀ t, Steps p.tables e below (T21.setTop (mkF m 153 #[iv p0, iv p1, .val (.long q2), .second, rv b1, iv (1 : Int32), iv (16 : Int32), iv vat, rv it15, .unset] [(.int vat), (.ref b1)])) t → Steps p.tables e below (s₁.setTop (entryFrame m #[(.int p0), (.int p1), (.long q2)] maxLocals)) t := by
      intro t kt
      refine pre20 _ ?_
      show Steps p.tables e below (T19.setTop (mkF m 132 #[iv p0, iv p1, .val (.long q2), .second, rv b1, iv (1 : Int32), iv (16 : Int32), iv vat, rv it15, .unset] [(.ref b1)])) _
      refine st21.trans ?_
      show Steps p.tables e below (T21.setTop (mkF m 135 #[iv p0, iv p1, .val (.long q2), .second, rv b1, iv (1 : Int32), iv (16 : Int32), iv vat, rv it15, .unset] [(.int (16 : Int32))])) _
      refine XS.iload X21.here hx rfl (hb hby at_135) rfl ?_
      refine XS.icmpYes X21.here hx rfl (pc0 := 137) (pc' := 142) rfl (hb hby at_137) rfl (teq (by decide)).1 (by decide) (by decide) ?_
      refine XS.iload X21.here hx rfl (hb hby at_142) rfl ?_
      refine XS.ifYes X21.here hx rfl (pc0 := 144) (pc' := 149) rfl (hb hby at_144) rfl ((if0 _ _).trans (feq (by decide)).2) (by decide) (by decide) ?_
      refine XS.aload X21.here hx rfl (hb hby at_149) rfl rfl ?_
      refine XS.iload X21.here hx rfl (hb hby at_151) rfl ?_
      exact kt
    obtain ⟨cq23, kq23, q23a, q23b, q23c⟩ := isOf hZ hh21 ((((A1.keep Kc3).keep Kc13).keep Kc15).keep Kc17)
    obtain ⟨_, _, ⟨T23, L23, k23, n23⟩, -, X23, ⟨Lc23, hQ23, l23, y23, z23⟩, st23⟩ := X21.virtualBack hx (y := (⟨"com/example/loopsmith/loopsmith/queue/Slots", "when", "(I)J"⟩ : MethodName)) (z := (⟨"com/example/loopsmith/loopsmith/queue/Slots", "when", "(I)J"⟩ : MethodName)) hown (mvT hZ (hw _ (List.mem_of_getElem? (i := 116) rfl))) (mvT hZ (hw _ (List.mem_of_getElem? (i := 117) rfl))) (notFace_of_selects (args := #[]) (mvT hZ (hw _ (List.mem_of_getElem? (i := 119) rfl)))) (mvT hZ (hw _ (List.mem_of_getElem? (i := 119) rfl))) (mvT hZ (hw _ (List.mem_of_getElem? (i := 118) rfl))) (by decide) (backOf (W := 0) (rm17 l Z a0 hw [] b1 vat T1_13 t2_13 kT_13 kt_13 [(((2 : Int32) * vat) + (1 : Int32), (.long (0 : Int64))), ((2 : Int32) * vat, (.long q2))] q2 T17.heap n0 (Nat.le_trans Z0 K17.1) ((Sti13.keep Kc15 nin0).keep Kc17 (ninS (Exa.ne ((((A1.keep Kc3).keep Kc13).keep Kc15).keep Kc17) ((Sei213.keep Kc15).keep Kc17) (by decide)) (ninS (Exa.ne ((((A1.keep Kc3).keep Kc13).keep Kc15).keep Kc17) ((Set213.keep Kc15).keep Kc17) (by decide)) (ninS (Exa.ne ((((A1.keep Kc3).keep Kc13).keep Kc15).keep Kc17) ((Sef213.keep Kc15).keep Kc17) (by decide)) nin0)))) ((SvT113.keep Kc15 nin0).keep Kc17 (ninS (Exa.ne ((SeT113.keep Kc15).keep Kc17) ((Sei213.keep Kc15).keep Kc17) (by decide)) (ninS (Exa.ne ((SeT113.keep Kc15).keep Kc17) ((Set213.keep Kc15).keep Kc17) (by decide)) (ninS (Exa.ne ((SeT113.keep Kc15).keep Kc17) ((Sef213.keep Kc15).keep Kc17) (by decide)) nin0)))) Ht17 (O0.keep K17 all0) S_bb (by rw [h_vat]; exact own_rem p1 (16 : Int32) 16 (by decide) (by decide)) (own_got vat 16 (by rw [h_vat]; exact own_rem p1 (16 : Int32) 16 (by decide) (by decide)) (by decide) _ _ _)) hZ (hw _ (List.mem_of_getElem? (i := 120) rfl)) (hw _ (List.mem_of_getElem? (i := 2) rfl)) (by decide) (by decide)) q23a q23c (g := (mkF m 153 #[iv p0, iv p1, .val (.long q2), .second, rv b1, iv (1 : Int32), iv (16 : Int32), iv vat, rv it15, .unset] [(.int vat), (.ref b1)])) rfl (by rw [hml]; rfl) (Steps.refl _) (argsL := [(.int vat)]) (rest := []) (lenOf pd16 rfl) rfl (by show 2 * 0 + _ ≤ _; exact Nat.le_of_eq rfl) (hb hby at_153) (fun _ _ => ⟨rfl, hh21, (by decide : 11 + 0 ≤ _), (by decide : 89 + 0 ≤ _)⟩)
    dsimp only [Pt.U, Pt.locs, Pt.cells, Pt.slots] at X23 l23 y23 z23 st23 hQ23
    subst l23 y23 z23
    obtain ⟨rfl, N23q, hh23⟩ := hQ23
    have N23 := Fr.app N21 N23q
    have pre25 : ∀ t, Steps p.tables e below (T23.setTop (mkF m 158 #[iv p0, iv p1, .val (.long q2), .second, rv b1, iv (1 : Int32), iv (16 : Int32), iv vat, rv it15, .unset] [(.int (lcmpW q2 q2))])) t → Steps p.tables e below (s₁.setTop (entryFrame m #[(.int p0), (.int p1), (.long q2)] maxLocals)) t := by
      intro t kt
      refine pre22 _ ?_
      show Steps p.tables e below (T21.setTop (mkF m 153 #[iv p0, iv p1, .val (.long q2), .second, rv b1, iv (1 : Int32), iv (16 : Int32), iv vat, rv it15, .unset] [(.int vat), (.ref b1)])) _
      refine st23.trans ?_
      show Steps p.tables e below (T23.setTop (mkF m 156 #[iv p0, iv p1, .val (.long q2), .second, rv b1, iv (1 : Int32), iv (16 : Int32), iv vat, rv it15, .unset] [(.long q2)])) _
      refine XS.lloadN X23.here hx rfl (hb hby at_156) rfl ?_
      refine XS.lcmp X23.here hx rfl (hb hby at_157) rfl ?_
      exact kt
    have hc158_24 : (lcmpW q2 q2) = (0 : Int32) := (lw_eq _ _).mpr rfl
    have pre26 : ∀ t, Steps p.tables e below (T23.setTop (mkF m 165 #[iv p0, iv p1, .val (.long q2), .second, rv b1, iv (1 : Int32), iv (16 : Int32), iv vat, rv it15, .unset] [(.int vat), (.ref b1)])) t → Steps p.tables e below (s₁.setTop (entryFrame m #[(.int p0), (.int p1), (.long q2)] maxLocals)) t := by
      intro t kt
      refine pre25 _ ?_
      show Steps p.tables e below (T23.setTop (mkF m 158 #[iv p0, iv p1, .val (.long q2), .second, rv b1, iv (1 : Int32), iv (16 : Int32), iv vat, rv it15, .unset] [(.int (lcmpW q2 q2))])) _
      refine XS.ifNo X23.here hx rfl (hb hby at_158) rfl ((if0 _ _).trans (teq hc158_24).2) ?_
      refine XS.aload X23.here hx rfl (hb hby at_161) rfl rfl ?_
      refine XS.iload X23.here hx rfl (hb hby at_163) rfl ?_
      exact kt
    obtain ⟨cq27, kq27, q27a, q27b, q27c⟩ := isOf hZ hh23 ((((A1.keep Kc3).keep Kc13).keep Kc15).keep Kc17)
    obtain ⟨_, _, ⟨T27, L27, k27, n27⟩, -, X27, ⟨Lc27, hQ27, l27, y27, z27⟩, st27⟩ := X23.virtualBack hx (y := (⟨"com/example/loopsmith/loopsmith/queue/Slots", "item", "(I)Ljava/lang/Object;"⟩ : MethodName)) (z := (⟨"com/example/loopsmith/loopsmith/queue/Slots", "item", "(I)Ljava/lang/Object;"⟩ : MethodName)) hown (mvT hZ (hw _ (List.mem_of_getElem? (i := 121) rfl))) (mvT hZ (hw _ (List.mem_of_getElem? (i := 122) rfl))) (notFace_of_selects (args := #[]) (mvT hZ (hw _ (List.mem_of_getElem? (i := 124) rfl)))) (mvT hZ (hw _ (List.mem_of_getElem? (i := 124) rfl))) (mvT hZ (hw _ (List.mem_of_getElem? (i := 123) rfl))) (by decide) (backOf (W := 0) (rm18r l Z a0 hw [] b1 vat I1_13 i2_13 kI_13 ki_13 [(((2 : Int32) * vat) + (1 : Int32), .null), ((2 : Int32) * vat, (.ref it15))] it15 T17.heap n0 (Nat.le_trans Z0 K17.1) ((Sit13.keep Kc15 nin0).keep Kc17 (ninS (Exa.ne ((((A1.keep Kc3).keep Kc13).keep Kc15).keep Kc17) ((Sei213.keep Kc15).keep Kc17) (by decide)) (ninS (Exa.ne ((((A1.keep Kc3).keep Kc13).keep Kc15).keep Kc17) ((Set213.keep Kc15).keep Kc17) (by decide)) (ninS (Exa.ne ((((A1.keep Kc3).keep Kc13).keep Kc15).keep Kc17) ((Sef213.keep Kc15).keep Kc17) (by decide)) nin0)))) ((SvI113.keep Kc15 nin0).keep Kc17 (ninS (Exa.ne ((SeI113.keep Kc15).keep Kc17) ((Sei213.keep Kc15).keep Kc17) (by decide)) (ninS (Exa.ne ((SeI113.keep Kc15).keep Kc17) ((Set213.keep Kc15).keep Kc17) (by decide)) (ninS (Exa.ne ((SeI113.keep Kc15).keep Kc17) ((Sef213.keep Kc15).keep Kc17) (by decide)) nin0)))) Hi17 (O0.keep K17 all0) S_bb (by rw [h_vat]; exact own_rem p1 (16 : Int32) 16 (by decide) (by decide)) (own_got vat 16 (by rw [h_vat]; exact own_rem p1 (16 : Int32) 16 (by decide) (by decide)) (by decide) _ _ _)) hZ (hw _ (List.mem_of_getElem? (i := 125) rfl)) (hw _ (List.mem_of_getElem? (i := 2) rfl)) (by decide) (by decide)) q27a q27c (g := (mkF m 165 #[iv p0, iv p1, .val (.long q2), .second, rv b1, iv (1 : Int32), iv (16 : Int32), iv vat, rv it15, .unset] [(.int vat), (.ref b1)])) rfl (by rw [hml]; rfl) (Steps.refl _) (argsL := [(.int vat)]) (rest := []) (lenOf pd17 rfl) rfl (by show 2 * 0 + _ ≤ _; exact Nat.le_of_eq rfl) (hb hby at_165) (fun _ _ => ⟨rfl, hh23, (by decide : 11 + 0 ≤ _), (by decide : 89 + 0 ≤ _)⟩)
    dsimp only [Pt.U, Pt.locs, Pt.cells, Pt.slots] at X27 l27 y27 z27 st27 hQ27
    subst l27 y27 z27
    obtain ⟨rfl, N27q, hh27⟩ := hQ27
    have N27 := Fr.app N23 N27q
    have pre28 : ∀ t, Steps p.tables e below (T27.setTop (mkF m 178 #[iv p0, iv p1, .val (.long q2), .second, rv b1, iv (1 : Int32), iv (16 : Int32), iv vat, rv it15, .unset] [(.int (1 : Int32))])) t → Steps p.tables e below (s₁.setTop (entryFrame m #[(.int p0), (.int p1), (.long q2)] maxLocals)) t := by
      intro t kt
      refine pre26 _ ?_
      show Steps p.tables e below (T23.setTop (mkF m 165 #[iv p0, iv p1, .val (.long q2), .second, rv b1, iv (1 : Int32), iv (16 : Int32), iv vat, rv it15, .unset] [(.int vat), (.ref b1)])) _
      refine st27.trans ?_
      show Steps p.tables e below (T27.setTop (mkF m 168 #[iv p0, iv p1, .val (.long q2), .second, rv b1, iv (1 : Int32), iv (16 : Int32), iv vat, rv it15, .unset] [(.ref it15)])) _
      refine XS.aload X27.here hx rfl (hb hby at_168) rfl rfl ?_
      refine Jvm.RoadKit.acmp (g := (mkF m 170 #[iv p0, iv p1, .val (.long q2), .second, rv b1, iv (1 : Int32), iv (16 : Int32), iv vat, rv it15, .unset] [(.ref it15), (.ref it15)])) X27 hx rfl rfl rfl (pc0 := 170) (pc' := 173) (same := true) rfl (hb hby at_170) rfl (decide_eq_true rfl) (by decide) (by decide) ?_
      show Steps p.tables e below (T27.setTop (mkF m 173 #[iv p0, iv p1, .val (.long q2), .second, rv b1, iv (1 : Int32), iv (16 : Int32), iv vat, rv it15, .unset] [])) _
      refine XS.iconst X27.here hx rfl (hb hby at_173) ?_
      refine XS.goto X27.here hx rfl (pc0 := 174) (pc' := 178) rfl (hb hby at_174) (by decide) (by decide) ?_
      exact kt
    obtain ⟨fs, hr, hrun, hended, hW, hsame⟩ := X27.leave (v := some (.int (1 : Int32))) (fun h => by rw [Bd.returns] at h; cases h)
    refine ⟨_, _, pre28 _ ?_, hrun, hended, _, _, rfl, ?_, ⟨_, rfl⟩, hW, hsame.mono (by decide) (by decide)⟩
    · show Steps p.tables e below (T27.setTop (mkF m 178 #[iv p0, iv p1, .val (.long q2), .second, rv b1, iv (1 : Int32), iv (16 : Int32), iv vat, rv it15, .unset] [(.int (1 : Int32))])) _
      exact retN X27 hx (t := .boolean) Bd.returns (by simp) (hb hby at_178) hr
    · show Q0 Z p0 p1 q2 mr ca cc h0 n0 _ T27.heap _
      rw [hh27]
      exact ⟨rfl, N27⟩
  · have pre29 : ∀ t, Steps p.tables e below (T3.setTop (mkF m 22 #[iv p0, iv p1, .val (.long q2), .second, rv b1, iv (2 : Int32), .unset, .unset, .unset, .unset] [(.ref b1)])) t → Steps p.tables e below (s₁.setTop (entryFrame m #[(.int p0), (.int p1), (.long q2)] maxLocals)) t := by
      intro t kt
      refine pre4 _ ?_
      show Steps p.tables e below (T3.setTop (mkF m 14 #[iv p0, iv p1, .val (.long q2), .second, rv b1, iv (p0 &&& (3 : Int32)), .unset, .unset, .unset, .unset] [])) _
      rw [h4]
      show Steps p.tables e below (T3.setTop (mkF m 14 #[iv p0, iv p1, .val (.long q2), .second, rv b1, iv (2 : Int32), .unset, .unset, .unset, .unset] [])) _
      refine XS.iload X3.here hx rfl (hb hby at_14) rfl ?_
      refine XS.iconst X3.here hx rfl (hb hby at_16) ?_
      refine XS.icmpNo X3.here hx rfl (hb hby at_17) rfl (flt (by decide)).1 ?_
      refine XS.aload X3.here hx rfl (hb hby at_20) rfl rfl ?_
      exact kt
    obtain ⟨cq30, kq30, q30a, q30b, q30c⟩ := isOf hZ rfl (A1.keep Kc3)
    obtain ⟨_, _, ⟨T30, L30, k30, n30⟩, -, X30, ⟨Lc30, hQ30, l30, y30, z30⟩, st30⟩ := X3.virtualBack hx (y := (⟨"com/example/loopsmith/loopsmith/queue/Slots", "grow", "()V"⟩ : MethodName)) (z := (⟨"com/example/loopsmith/loopsmith/queue/Slots", "grow", "()V"⟩ : MethodName)) hown (mvT hZ (hw _ (List.mem_of_getElem? (i := 40) rfl))) (mvT hZ (hw _ (List.mem_of_getElem? (i := 41) rfl))) (notFace_of_selects (args := #[]) (mvT hZ (hw _ (List.mem_of_getElem? (i := 43) rfl)))) (mvT hZ (hw _ (List.mem_of_getElem? (i := 43) rfl))) (mvT hZ (hw _ (List.mem_of_getElem? (i := 42) rfl))) (by decide) (backOf (W := 0) (rm6c0 l Z a0 hw [] b1 zi3 zt3 zf3 zw3 T3.heap n0 (Nat.le_trans Z0 K3.1) Zi3 Zt3 Zf3 Zb3 Zc3 (A1.keep Kc3) g_b1) hZ (hw _ (List.mem_of_getElem? (i := 44) rfl)) (hw _ (List.mem_of_getElem? (i := 2) rfl)) (by decide) (by decide)) q30a q30c (g := (mkF m 22 #[iv p0, iv p1, .val (.long q2), .second, rv b1, iv (2 : Int32), .unset, .unset, .unset, .unset] [(.ref b1)])) rfl (by rw [hml]; rfl) (Steps.refl _) (argsL := []) (rest := []) (lenOf pd6 rfl) rfl (by show 2 * 0 + _ ≤ _; exact Nat.le_of_eq rfl) (hb hby at_22) (fun _ _ => ⟨rfl, rfl, (by decide : 4 + 6 ≤ _), (by decide : 5 + 83 ≤ _)⟩)
    dsimp only [Pt.U, Pt.locs, Pt.cells, Pt.slots] at X30 l30 y30 z30 st30 hQ30
    subst l30 y30 z30
    obtain ⟨I1_30, T1_30, F1_30, i2_30, t2_30, f2_30, kI_30, kT_30, kF_30, ki_30, kt_30, kf_30, rfl, N30q, Kc30, hg30, Sl30⟩ := hQ30
    have N30 := Fr.app N3 N30q
    have K30 : Keep h0 T30.heap [] := K3.trans Kc30 (allS (Or.inr sz_b1) all0)
    obtain ⟨g_I1_30, g_T1_30, g_F1_30, g_i2_30, g_t2_30, g_f2_30⟩ := hg30
    obtain ⟨Sit30, Sti30, Sfl30, ⟨wb30, Sbl30⟩, Sca30, SeI130, SeT130, SeF130, Sei230, Set230, Sef230, SvI130, SvT130, SvF130, Svi230, Svt230, Svf230, SoI130, SoT130, SoF130, Soi230⟩ := id Sl30
    have sz_I1_30 : h0.size ≤ I1_30 := by rw [← hsz0]; exact g_I1_30
    have sz_T1_30 : h0.size ≤ T1_30 := by rw [← hsz0]; exact g_T1_30
    have sz_F1_30 : h0.size ≤ F1_30 := by rw [← hsz0]; exact g_F1_30
    have sz_i2_30 : h0.size ≤ i2_30 := by rw [← hsz0]; exact g_i2_30
    have sz_t2_30 : h0.size ≤ t2_30 := by rw [← hsz0]; exact g_t2_30
    have sz_f2_30 : h0.size ≤ f2_30 := by rw [← hsz0]; exact g_f2_30
    have pre31 : ∀ t, Steps p.tables e below (T30.setTop (mkF m 33 #[iv p0, iv p1, .val (.long q2), .second, rv b1, iv (2 : Int32), .unset, .unset, .unset, .unset] [(.ref b1)])) t → Steps p.tables e below (s₁.setTop (entryFrame m #[(.int p0), (.int p1), (.long q2)] maxLocals)) t := by
      intro t kt
      refine pre29 _ ?_
      show Steps p.tables e below (T3.setTop (mkF m 22 #[iv p0, iv p1, .val (.long q2), .second, rv b1, iv (2 : Int32), .unset, .unset, .unset, .unset] [(.ref b1)])) _
      refine st30.trans ?_
      show Steps p.tables e below (T30.setTop (mkF m 25 #[iv p0, iv p1, .val (.long q2), .second, rv b1, iv (2 : Int32), .unset, .unset, .unset, .unset] [])) _
      refine XS.iload X30.here hx rfl (hb hby at_25) rfl ?_
      refine XS.iconst X30.here hx rfl (hb hby at_27) ?_
      refine XS.icmpNo X30.here hx rfl (hb hby at_28) rfl (flt (by decide)).1 ?_
      refine XS.aload X30.here hx rfl (hb hby at_31) rfl rfl ?_
      exact kt
    obtain ⟨cq32, kq32, q32a, q32b, q32c⟩ := isOf hZ rfl ((A1.keep Kc3).keep Kc30)
    obtain ⟨_, _, ⟨T32, L32, k32, n32⟩, -, X32, ⟨Lc32, hQ32, l32, y32, z32⟩, st32⟩ := X30.virtualBack hx (y := (⟨"com/example/loopsmith/loopsmith/queue/Slots", "grow", "()V"⟩ : MethodName)) (z := (⟨"com/example/loopsmith/loopsmith/queue/Slots", "grow", "()V"⟩ : MethodName)) hown (mvT hZ (hw _ (List.mem_of_getElem? (i := 40) rfl))) (mvT hZ (hw _ (List.mem_of_getElem? (i := 41) rfl))) (notFace_of_selects (args := #[]) (mvT hZ (hw _ (List.mem_of_getElem? (i := 43) rfl)))) (mvT hZ (hw _ (List.mem_of_getElem? (i := 43) rfl))) (mvT hZ (hw _ (List.mem_of_getElem? (i := 42) rfl))) (by decide) (backOf (W := 0) (rm6c16 l Z a0 hw [] b1 mr I1_30 T1_30 F1_30 i2_30 t2_30 f2_30 kI_30 kT_30 kF_30 ki_30 kt_30 kf_30 T30.heap n0 (Nat.le_trans Z0 K30.1) M_ ⟨Sit30, Sti30, Sfl30, ⟨_, Sbl30⟩, Sca30, SeI130, SeT130, SeF130, Sei230, Set230, Sef230, SvI130, SvT130, SvF130, Svi230, Svt230, Svf230, SoI130, SoT130, SoF130, Soi230⟩ ((A1.keep Kc3).keep Kc30) g_b1 g_I1_30 g_T1_30 g_F1_30 g_i2_30 g_t2_30 g_f2_30) hZ (hw _ (List.mem_of_getElem? (i := 44) rfl)) (hw _ (List.mem_of_getElem? (i := 2) rfl)) (by decide) (by decide)) q32a q32c (g := (mkF m 33 #[iv p0, iv p1, .val (.long q2), .second, rv b1, iv (2 : Int32), .unset, .unset, .unset, .unset] [(.ref b1)])) rfl (by rw [hml]; rfl) (Steps.refl _) (argsL := []) (rest := []) (lenOf pd6 rfl) rfl (by show 2 * 0 + _ ≤ _; exact Nat.le_of_eq rfl) (hb hby at_33) (fun _ _ => ⟨rfl, rfl, (by decide : 10 + 3 ≤ _), (by decide : 88 + 160 ≤ _)⟩)
    dsimp only [Pt.U, Pt.locs, Pt.cells, Pt.slots] at X32 l32 y32 z32 st32 hQ32
    subst l32 y32 z32
    obtain ⟨I1_32, T1_32, F1_32, i2_32, t2_32, f2_32, kI_32, kT_32, kF_32, ki_32, kt_32, kf_32, rfl, N32q, Kc32, hg32, Sl32⟩ := hQ32
    have N32 := Fr.app N30 N32q
    have K32 : Keep h0 T32.heap [] := K30.trans Kc32 (allS (Or.inr sz_b1) (allS (Or.inr sz_I1_30) (allS (Or.inr sz_T1_30) (allS (Or.inr sz_F1_30) all0))))
    obtain ⟨g_I1_32, g_T1_32, g_F1_32, g_i2_32, g_t2_32, g_f2_32⟩ := hg32
    obtain ⟨Sit32, Sti32, Sfl32, ⟨wb32, Sbl32⟩, Sca32, SeI132, SeT132, SeF132, Sei232, Set232, Sef232, SvI132, SvT132, SvF132, Svi232, Svt232, Svf232, SoI132, SoT132, SoF132, Soi232⟩ := id Sl32
    have sz_I1_32 : h0.size ≤ I1_32 := by rw [← hsz0]; exact g_I1_32
    have sz_T1_32 : h0.size ≤ T1_32 := by rw [← hsz0]; exact g_T1_32
    have sz_F1_32 : h0.size ≤ F1_32 := by rw [← hsz0]; exact g_F1_32
    have sz_i2_32 : h0.size ≤ i2_32 := by rw [← hsz0]; exact g_i2_32
    have sz_t2_32 : h0.size ≤ t2_32 := by rw [← hsz0]; exact g_t2_32
    have sz_f2_32 : h0.size ≤ f2_32 := by rw [← hsz0]; exact g_f2_32
    have pre33 : ∀ t, Steps p.tables e below (T32.setTop (mkF m 86 #[iv p0, iv p1, .val (.long q2), .second, rv b1, iv (2 : Int32), iv (32 : Int32), iv (0 : Int32), .unset, .unset] [(.int p1)])) t → Steps p.tables e below (s₁.setTop (entryFrame m #[(.int p0), (.int p1), (.long q2)] maxLocals)) t := by
      intro t kt
      refine pre31 _ ?_
      show Steps p.tables e below (T30.setTop (mkF m 33 #[iv p0, iv p1, .val (.long q2), .second, rv b1, iv (2 : Int32), .unset, .unset, .unset, .unset] [(.ref b1)])) _
      refine st32.trans ?_
      show Steps p.tables e below (T32.setTop (mkF m 36 #[iv p0, iv p1, .val (.long q2), .second, rv b1, iv (2 : Int32), .unset, .unset, .unset, .unset] [])) _
      refine XS.iload X32.here hx rfl (hb hby at_36) rfl ?_
      refine XS.iconst X32.here hx rfl (hb hby at_38) ?_
      refine XS.icmpYes X32.here hx rfl (pc0 := 39) (pc' := 47) rfl (hb hby at_39) rfl (tlt (by decide)).1 (by decide) (by decide) ?_
      refine XS.iload X32.here hx rfl (hb hby at_47) rfl ?_
      refine XS.ifYes X32.here hx rfl (pc0 := 49) (pc' := 56) rfl (hb hby at_49) rfl ((if0 _ _).trans (feq (by decide)).2) (by decide) (by decide) ?_
      refine XS.iload X32.here hx rfl (hb hby at_56) rfl ?_
      show Steps p.tables e below (T32.setTop (mkF m 58 #[iv p0, iv p1, .val (.long q2), .second, rv b1, iv (2 : Int32), .unset, .unset, .unset, .unset] [(.int (2 : Int32))])) _
      refine XS.iconst X32.here hx rfl (hb hby at_58) ?_
      refine XS.icmpYes X32.here hx rfl (pc0 := 59) (pc' := 67) rfl (hb hby at_59) rfl (feq (by decide)).2 (by decide) (by decide) ?_
      refine XS.iload X32.here hx rfl (hb hby at_67) rfl ?_
      refine XS.iconst X32.here hx rfl (hb hby at_69) ?_
      refine XS.icmpNo X32.here hx rfl (hb hby at_70) rfl (teq (by decide)).2 ?_
      refine XS.bipush X32.here hx rfl (hb hby at_73) ?_
      show Steps p.tables e below (T32.setTop (mkF m 75 #[iv p0, iv p1, .val (.long q2), .second, rv b1, iv (2 : Int32), .unset, .unset, .unset, .unset] [(.int (32 : Int32))])) _
      refine XS.goto X32.here hx rfl (pc0 := 75) (pc' := 80) rfl (hb hby at_75) (by decide) (by decide) ?_
      refine XS.istore X32.here hx rfl (hb hby at_80) rfl (l' := #[iv p0, iv p1, .val (.long q2), .second, rv b1, iv (2 : Int32), iv (32 : Int32), .unset, .unset, .unset]) rfl ?_
      refine XS.iconst X32.here hx rfl (hb hby at_82) ?_
      refine XS.istore X32.here hx rfl (hb hby at_83) rfl (l' := #[iv p0, iv p1, .val (.long q2), .second, rv b1, iv (2 : Int32), iv (32 : Int32), iv (0 : Int32), .unset, .unset]) rfl ?_
      refine XS.iloadN X32.here hx rfl (hb hby at_85) rfl ?_
      exact kt
    obtain ⟨_, _, ⟨T34, L34, k34, n34⟩, -, X34, ⟨Lc34, hQ34, l34, y34, z34⟩, st34⟩ := Jvm.LawKit.callS X32 hx (y := (⟨"java/lang/Integer", "valueOf", "(I)Ljava/lang/Integer;"⟩ : MethodName)) hown (mvT hZ (hw _ (List.mem_of_getElem? (i := 21) rfl))) (mvT hZ (hw _ (List.mem_of_getElem? (i := 22) rfl))) (mvT hZ (hw _ (List.mem_of_getElem? (i := 23) rfl))) (mvT hZ (hw _ (List.mem_of_getElem? (i := 24) rfl))) (by decide) (backOf (W := 0) (rm3 l Z a0 hw [] p1 ca cc T32.heap n0 (Nat.le_trans Z0 K32.1) (O0.keep K32 all0) S_high S_cache BX) hZ (hw _ (List.mem_of_getElem? (i := 24) rfl)) (hw _ (List.mem_of_getElem? (i := 23) rfl)) (by decide) (by decide)) (g := (mkF m 86 #[iv p0, iv p1, .val (.long q2), .second, rv b1, iv (2 : Int32), iv (32 : Int32), iv (0 : Int32), .unset, .unset] [(.int p1)])) rfl (by rw [hml]; rfl) (argsL := [(.int p1)]) (rest := []) (lenOf pd14 rfl) rfl (by show 2 * 0 + _ ≤ _; exact Nat.le_of_eq rfl) (hb hby at_86) (fun _ _ => ⟨rfl, rfl, (by decide : 13 + 1 ≤ _), (by decide : 248 + 1 ≤ _)⟩)
    dsimp only [Pt.U, Pt.locs, Pt.cells, Pt.slots] at X34 l34 y34 z34 st34 hQ34
    subst l34 y34 z34
    obtain ⟨it34, rfl, N34q, Kc34, Ei34⟩ := hQ34
    have N34 := Fr.app N32 N34q
    have K34 : Keep h0 T34.heap [] := K32.trans Kc34 all0
    obtain ⟨vat, h_vat⟩ : ∃ z : Int32, z = ((p1 &&& (2147483647 : Int32)) % (32 : Int32)) := ⟨_, rfl⟩
    have pre35 : ∀ t, Steps p.tables e below (T34.setTop (mkF m 115 #[iv p0, iv p1, .val (.long q2), .second, rv b1, iv (2 : Int32), iv (32 : Int32), iv vat, rv it34, .unset] [(.int (0 : Int32)), (.long (0 : Int64)), (.long q2), .null, (.ref it34), (.int vat), (.ref b1)])) t → Steps p.tables e below (s₁.setTop (entryFrame m #[(.int p0), (.int p1), (.long q2)] maxLocals)) t := by
      intro t kt
      refine pre33 _ ?_
      show Steps p.tables e below (T32.setTop (mkF m 86 #[iv p0, iv p1, .val (.long q2), .second, rv b1, iv (2 : Int32), iv (32 : Int32), iv (0 : Int32), .unset, .unset] [(.int p1)])) _
      refine st34 _ ?_
      show Steps p.tables e below (T34.setTop (mkF m 89 #[iv p0, iv p1, .val (.long q2), .second, rv b1, iv (2 : Int32), iv (32 : Int32), iv (0 : Int32), .unset, .unset] [(.ref it34)])) _
      refine XS.astore X34.here hx rfl (hb hby at_89) rfl rfl (l' := #[iv p0, iv p1, .val (.long q2), .second, rv b1, iv (2 : Int32), iv (32 : Int32), iv (0 : Int32), rv it34, .unset]) rfl ?_
      refine XS.iload X34.here hx rfl (hb hby at_91) rfl ?_
      refine XS.ifNo X34.here hx rfl (hb hby at_93) rfl ((if0 _ _).trans (tlt (by decide)).2.2.2) ?_
      refine XS.iloadN X34.here hx rfl (hb hby at_96) rfl ?_
      refine X34.ldcInt hx hown (mvT hZ (hw _ (List.mem_of_getElem? (i := 107) rfl))) (g := (mkF m 97 #[iv p0, iv p1, .val (.long q2), .second, rv b1, iv (2 : Int32), iv (32 : Int32), iv (0 : Int32), rv it34, .unset] [(.int p1)])) rfl (hb hby at_97) _ ?_
      show Steps p.tables e below (T34.setTop (mkF m 99 #[iv p0, iv p1, .val (.long q2), .second, rv b1, iv (2 : Int32), iv (32 : Int32), iv (0 : Int32), rv it34, .unset] [(.int (2147483647 : Int32)), (.int p1)])) _
      refine XS.iand X34.here hx rfl (hb hby at_99) rfl ?_
      refine XS.iload X34.here hx rfl (hb hby at_100) rfl ?_
      refine iremM X34 hx rfl (hb hby at_102) rfl (by decide) ?_
      show Steps p.tables e below (T34.setTop (mkF m 103 #[iv p0, iv p1, .val (.long q2), .second, rv b1, iv (2 : Int32), iv (32 : Int32), iv (0 : Int32), rv it34, .unset] [(.int ((p1 &&& (2147483647 : Int32)) % (32 : Int32)))])) _
      refine XS.istore X34.here hx rfl (hb hby at_103) rfl (l' := #[iv p0, iv p1, .val (.long q2), .second, rv b1, iv (2 : Int32), iv (32 : Int32), iv ((p1 &&& (2147483647 : Int32)) % (32 : Int32)), rv it34, .unset]) rfl ?_
      show Steps p.tables e below (T34.setTop (mkF m 105 #[iv p0, iv p1, .val (.long q2), .second, rv b1, iv (2 : Int32), iv (32 : Int32), iv ((p1 &&& (2147483647 : Int32)) % (32 : Int32)), rv it34, .unset] [])) _
      rw [← h_vat]
      show Steps p.tables e below (T34.setTop (mkF m 105 #[iv p0, iv p1, .val (.long q2), .second, rv b1, iv (2 : Int32), iv (32 : Int32), iv vat, rv it34, .unset] [])) _
      refine XS.aload X34.here hx rfl (hb hby at_105) rfl rfl ?_
      refine XS.iload X34.here hx rfl (hb hby at_107) rfl ?_
      refine XS.aload X34.here hx rfl (hb hby at_109) rfl rfl ?_
      refine XS.aconstNull X34.here hx rfl (hb hby at_111) ?_
      refine XS.lloadN X34.here hx rfl (hb hby at_112) rfl ?_
      refine XS.lconst X34.here hx rfl (hb hby at_113) ?_
      show Steps p.tables e below (T34.setTop (mkF m 114 #[iv p0, iv p1, .val (.long q2), .second, rv b1, iv (2 : Int32), iv (32 : Int32), iv vat, rv it34, .unset] [(.long (0 : Int64)), (.long q2), .null, (.ref it34), (.int vat), (.ref b1)])) _
      refine XS.iconst X34.here hx rfl (hb hby at_114) ?_
      exact kt
    obtain ⟨cq36, kq36, q36a, q36b, q36c⟩ := isOf hZ rfl ((((A1.keep Kc3).keep Kc30).keep Kc32).keep Kc34)
    obtain ⟨_, _, ⟨T36, L36, k36, n36⟩, -, X36, ⟨Lc36, hQ36, l36, y36, z36⟩, st36⟩ := X34.virtualBack hx (y := (⟨"com/example/loopsmith/loopsmith/queue/Slots", "set", "(ILjava/lang/Object;Lcom/example/loopsmith/loopsmith/queue/Message$Target;JJB)V"⟩ : MethodName)) (z := (⟨"com/example/loopsmith/loopsmith/queue/Slots", "set", "(ILjava/lang/Object;Lcom/example/loopsmith/loopsmith/queue/Message$Target;JJB)V"⟩ : MethodName)) hown (mvT hZ (hw _ (List.mem_of_getElem? (i := 108) rfl))) (mvT hZ (hw _ (List.mem_of_getElem? (i := 109) rfl))) (notFace_of_selects (args := #[]) (mvT hZ (hw _ (List.mem_of_getElem? (i := 111) rfl)))) (mvT hZ (hw _ (List.mem_of_getElem? (i := 111) rfl))) (mvT hZ (hw _ (List.mem_of_getElem? (i := 110) rfl))) (by decide) (backOf (W := 0) (rm16c32 l Z a0 hw [] b1 vat it34 q2 I1_32 T1_32 F1_32 i2_32 t2_32 f2_32 kI_32 kT_32 kF_32 ki_32 kt_32 kf_32 T34.heap n0 (Nat.le_trans Z0 K34.1) ⟨(Sit32.keep Kc34 nin0), (Sti32.keep Kc34 nin0), (Sfl32.keep Kc34 nin0), ⟨_, (Sbl32.keep Kc34 nin0)⟩, (Sca32.keep Kc34 nin0), (SeI132.keep Kc34), (SeT132.keep Kc34), (SeF132.keep Kc34), (Sei232.keep Kc34), (Set232.keep Kc34), (Sef232.keep Kc34), (SvI132.keep Kc34 nin0), (SvT132.keep Kc34 nin0), (SvF132.keep Kc34 nin0), (Svi232.keep Kc34 nin0), (Svt232.keep Kc34 nin0), (Svf232.keep Kc34 nin0), SoI132, SoT132, SoF132, Soi232⟩ ((((A1.keep Kc3).keep Kc30).keep Kc32).keep Kc34) g_b1 g_I1_32 g_T1_32 g_F1_32 g_i2_32 g_t2_32 g_f2_32 Ei34 (O0.keep K34 all0) S_bb (by rw [h_vat]; exact own_rem p1 (32 : Int32) 32 (by decide) (by decide))) hZ (hw _ (List.mem_of_getElem? (i := 112) rfl)) (hw _ (List.mem_of_getElem? (i := 2) rfl)) (by decide) (by decide)) q36a q36c (g := (mkF m 115 #[iv p0, iv p1, .val (.long q2), .second, rv b1, iv (2 : Int32), iv (32 : Int32), iv vat, rv it34, .unset] [(.int (0 : Int32)), (.long (0 : Int64)), (.long q2), .null, (.ref it34), (.int vat), (.ref b1)])) rfl (by rw [hml]; rfl) (Steps.refl _) (argsL := [(.int vat), (.ref it34), .null, (.long q2), (.long (0 : Int64)), (.int (0 : Int32))]) (rest := []) (lenOf pd15 rfl) rfl (by show 2 * 0 + _ ≤ _; exact Nat.le_of_eq rfl) (hb hby at_115) (fun _ _ => ⟨rfl, rfl, (by decide : 14 + 0 ≤ _), (by decide : 249 + 0 ≤ _)⟩)
    dsimp only [Pt.U, Pt.locs, Pt.cells, Pt.slots] at X36 l36 y36 z36 st36 hQ36
    subst l36 y36 z36
    obtain ⟨rfl, N36q, Kc36, Hi36, Ht36⟩ := hQ36
    have N36 := Fr.app N34 N36q
    have K36 : Keep h0 T36.heap [] := K34.trans Kc36 (allS (Or.inr sz_i2_32) (allS (Or.inr sz_t2_32) (allS (Or.inr sz_f2_32) all0)))
    have pre37 : ∀ t, Steps p.tables e below (T36.setTop (mkF m 120 #[iv p0, iv p1, .val (.long q2), .second, rv b1, iv (2 : Int32), iv (32 : Int32), iv vat, rv it34, .unset] [(.ref b1)])) t → Steps p.tables e below (s₁.setTop (entryFrame m #[(.int p0), (.int p1), (.long q2)] maxLocals)) t := by
      intro t kt
      refine pre35 _ ?_
      show Steps p.tables e below (T34.setTop (mkF m 115 #[iv p0, iv p1, .val (.long q2), .second, rv b1, iv (2 : Int32), iv (32 : Int32), iv vat, rv it34, .unset] [(.int (0 : Int32)), (.long (0 : Int64)), (.long q2), .null, (.ref it34), (.int vat), (.ref b1)])) _
      refine st36.trans ?_
      show Steps p.tables e below (T36.setTop (mkF m 118 #[iv p0, iv p1, .val (.long q2), .second, rv b1, iv (2 : Int32), iv (32 : Int32), iv vat, rv it34, .unset] [])) _
      refine XS.aload X36.here hx rfl (hb hby at_118) rfl rfl ?_
      exact kt
    obtain ⟨cq38, kq38, q38a, q38b, q38c⟩ := isOf hZ rfl (((((A1.keep Kc3).keep Kc30).keep Kc32).keep Kc34).keep Kc36)
    obtain ⟨_, _, ⟨T38, L38, k38, n38⟩, -, X38, ⟨Lc38, hQ38, l38, y38, z38⟩, st38⟩ := X36.virtualBack hx (y := (⟨"com/example/loopsmith/loopsmith/queue/Slots", "letGo", "()V"⟩ : MethodName)) (z := (⟨"com/example/loopsmith/loopsmith/queue/Slots", "letGo", "()V"⟩ : MethodName)) hown (mvT hZ (hw _ (List.mem_of_getElem? (i := 28) rfl))) (mvT hZ (hw _ (List.mem_of_getElem? (i := 29) rfl))) (notFace_of_selects (args := #[]) (mvT hZ (hw _ (List.mem_of_getElem? (i := 31) rfl)))) (mvT hZ (hw _ (List.mem_of_getElem? (i := 31) rfl))) (mvT hZ (hw _ (List.mem_of_getElem? (i := 30) rfl))) (by decide) (backOf (W := 0) (rm4c32 l Z a0 hw [] b1 I1_32 T1_32 F1_32 wb32 T36.heap n0 (Nat.le_trans Z0 K36.1) ((Sit32.keep Kc34 nin0).keep Kc36 (ninS (Exa.ne (((((A1.keep Kc3).keep Kc30).keep Kc32).keep Kc34).keep Kc36) ((Sei232.keep Kc34).keep Kc36) (by decide)) (ninS (Exa.ne (((((A1.keep Kc3).keep Kc30).keep Kc32).keep Kc34).keep Kc36) ((Set232.keep Kc34).keep Kc36) (by decide)) (ninS (Exa.ne (((((A1.keep Kc3).keep Kc30).keep Kc32).keep Kc34).keep Kc36) ((Sef232.keep Kc34).keep Kc36) (by decide)) nin0)))) ((Sti32.keep Kc34 nin0).keep Kc36 (ninS (Exa.ne (((((A1.keep Kc3).keep Kc30).keep Kc32).keep Kc34).keep Kc36) ((Sei232.keep Kc34).keep Kc36) (by decide)) (ninS (Exa.ne (((((A1.keep Kc3).keep Kc30).keep Kc32).keep Kc34).keep Kc36) ((Set232.keep Kc34).keep Kc36) (by decide)) (ninS (Exa.ne (((((A1.keep Kc3).keep Kc30).keep Kc32).keep Kc34).keep Kc36) ((Sef232.keep Kc34).keep Kc36) (by decide)) nin0)))) ((Sfl32.keep Kc34 nin0).keep Kc36 (ninS (Exa.ne (((((A1.keep Kc3).keep Kc30).keep Kc32).keep Kc34).keep Kc36) ((Sei232.keep Kc34).keep Kc36) (by decide)) (ninS (Exa.ne (((((A1.keep Kc3).keep Kc30).keep Kc32).keep Kc34).keep Kc36) ((Set232.keep Kc34).keep Kc36) (by decide)) (ninS (Exa.ne (((((A1.keep Kc3).keep Kc30).keep Kc32).keep Kc34).keep Kc36) ((Sef232.keep Kc34).keep Kc36) (by decide)) nin0)))) ((Sbl32.keep Kc34 nin0).keep Kc36 (ninS (Exa.ne (((((A1.keep Kc3).keep Kc30).keep Kc32).keep Kc34).keep Kc36) ((Sei232.keep Kc34).keep Kc36) (by decide)) (ninS (Exa.ne (((((A1.keep Kc3).keep Kc30).keep Kc32).keep Kc34).keep Kc36) ((Set232.keep Kc34).keep Kc36) (by decide)) (ninS (Exa.ne (((((A1.keep Kc3).keep Kc30).keep Kc32).keep Kc34).keep Kc36) ((Sef232.keep Kc34).keep Kc36) (by decide)) nin0)))) ((Sca32.keep Kc34 nin0).keep Kc36 (ninS (Exa.ne (((((A1.keep Kc3).keep Kc30).keep Kc32).keep Kc34).keep Kc36) ((Sei232.keep Kc34).keep Kc36) (by decide)) (ninS (Exa.ne (((((A1.keep Kc3).keep Kc30).keep Kc32).keep Kc34).keep Kc36) ((Set232.keep Kc34).keep Kc36) (by decide)) (ninS (Exa.ne (((((A1.keep Kc3).keep Kc30).keep Kc32).keep Kc34).keep Kc36) ((Sef232.keep Kc34).keep Kc36) (by decide)) nin0)))) (((((A1.keep Kc3).keep Kc30).keep Kc32).keep Kc34).keep Kc36) g_b1) hZ (hw _ (List.mem_of_getElem? (i := 32) rfl)) (hw _ (List.mem_of_getElem? (i := 2) rfl)) (by decide) (by decide)) q38a q38c (g := (mkF m 120 #[iv p0, iv p1, .val (.long q2), .second, rv b1, iv (2 : Int32), iv (32 : Int32), iv vat, rv it34, .unset] [(.ref b1)])) rfl (by rw [hml]; rfl) (Steps.refl _) (argsL := []) (rest := []) (lenOf pd6 rfl) rfl (by show 2 * 0 + _ ≤ _; exact Nat.le_of_eq rfl) (hb hby at_120) (fun _ _ => ⟨rfl, rfl, (by decide : 14 + 3 ≤ _), (by decide : 249 + 0 ≤ _)⟩)
    dsimp only [Pt.U, Pt.locs, Pt.cells, Pt.slots] at X38 l38 y38 z38 st38 hQ38
    subst l38 y38 z38
    obtain ⟨rfl, N38q, Kc38, ⟨zi38, zt38, zf38, Zi38, Zt38, Zf38⟩, ⟨zw38, Zb38⟩, Zc38⟩ := hQ38
    have N38 := Fr.app N36 N38q
    have K38 : Keep h0 T38.heap [] := K36.trans Kc38 (allS (Or.inr sz_b1) all0)
    have pre39 : ∀ t, Steps p.tables e below (T38.setTop (mkF m 181 #[iv p0, iv p1, .val (.long q2), .second, rv b1, iv (2 : Int32), iv (32 : Int32), iv vat, rv it34, .unset] [(.ref b1)])) t → Steps p.tables e below (s₁.setTop (entryFrame m #[(.int p0), (.int p1), (.long q2)] maxLocals)) t := by
      intro t kt
      refine pre37 _ ?_
      show Steps p.tables e below (T36.setTop (mkF m 120 #[iv p0, iv p1, .val (.long q2), .second, rv b1, iv (2 : Int32), iv (32 : Int32), iv vat, rv it34, .unset] [(.ref b1)])) _
      refine st38.trans ?_
      show Steps p.tables e below (T38.setTop (mkF m 123 #[iv p0, iv p1, .val (.long q2), .second, rv b1, iv (2 : Int32), iv (32 : Int32), iv vat, rv it34, .unset] [])) _
      refine XS.iload X38.here hx rfl (hb hby at_123) rfl ?_
      refine XS.bipush X38.here hx rfl (hb hby at_125) ?_
      refine XS.icmpYes X38.here hx rfl (pc0 := 127) (pc' := 179) rfl (hb hby at_127) rfl (tlt (by decide)).2.2.1 (by decide) (by decide) ?_
      refine XS.aload X38.here hx rfl (hb hby at_179) rfl rfl ?_
      exact kt
    obtain ⟨cq40, kq40, q40a, q40b, q40c⟩ := isOf hZ rfl ((((((A1.keep Kc3).keep Kc30).keep Kc32).keep Kc34).keep Kc36).keep Kc38)
    obtain ⟨_, _, ⟨T40, L40, k40, n40⟩, -, X40, ⟨Lc40, hQ40, l40, y40, z40⟩, st40⟩ := X38.virtualBack hx (y := (⟨"com/example/loopsmith/loopsmith/queue/Slots", "capacity", "()I"⟩ : MethodName)) (z := (⟨"com/example/loopsmith/loopsmith/queue/Slots", "capacity", "()I"⟩ : MethodName)) hown (mvT hZ (hw _ (List.mem_of_getElem? (i := 35) rfl))) (mvT hZ (hw _ (List.mem_of_getElem? (i := 36) rfl))) (notFace_of_selects (args := #[]) (mvT hZ (hw _ (List.mem_of_getElem? (i := 38) rfl)))) (mvT hZ (hw _ (List.mem_of_getElem? (i := 38) rfl))) (mvT hZ (hw _ (List.mem_of_getElem? (i := 37) rfl))) (by decide) (backOf (W := 0) (rm5 l Z a0 hw [] b1 (0 : Int32) T38.heap n0 (Nat.le_trans Z0 K38.1) Zc38) hZ (hw _ (List.mem_of_getElem? (i := 39) rfl)) (hw _ (List.mem_of_getElem? (i := 2) rfl)) (by decide) (by decide)) q40a q40c (g := (mkF m 181 #[iv p0, iv p1, .val (.long q2), .second, rv b1, iv (2 : Int32), iv (32 : Int32), iv vat, rv it34, .unset] [(.ref b1)])) rfl (by rw [hml]; rfl) (Steps.refl _) (argsL := []) (rest := []) (lenOf pd5 rfl) rfl (by show 2 * 0 + _ ≤ _; exact Nat.le_of_eq rfl) (hb hby at_181) (fun _ _ => ⟨rfl, rfl, (by decide : 17 + 0 ≤ _), (by decide : 249 + 0 ≤ _)⟩)
    dsimp only [Pt.U, Pt.locs, Pt.cells, Pt.slots] at X40 l40 y40 z40 st40 hQ40
    subst l40 y40 z40
    obtain ⟨rfl, N40q, hh40⟩ := hQ40
    have N40 := Fr.app N38 N40q
    have pre41 : ∀ t, Steps p.tables e below (T40.setTop (mkF m 191 #[iv p0, iv p1, .val (.long q2), .second, rv b1, iv (2 : Int32), iv (32 : Int32), iv vat, rv it34, .unset] [(.ref b1)])) t → Steps p.tables e below (s₁.setTop (entryFrame m #[(.int p0), (.int p1), (.long q2)] maxLocals)) t := by
      intro t kt
      refine pre39 _ ?_
      show Steps p.tables e below (T38.setTop (mkF m 181 #[iv p0, iv p1, .val (.long q2), .second, rv b1, iv (2 : Int32), iv (32 : Int32), iv vat, rv it34, .unset] [(.ref b1)])) _
      refine st40.trans ?_
      show Steps p.tables e below (T40.setTop (mkF m 184 #[iv p0, iv p1, .val (.long q2), .second, rv b1, iv (2 : Int32), iv (32 : Int32), iv vat, rv it34, .unset] [(.int (0 : Int32))])) _
      refine XS.ifYes X40.here hx rfl (pc0 := 184) (pc' := 189) rfl (hb hby at_184) rfl ((if0 _ _).trans (teq (by decide)).1) (by decide) (by decide) ?_
      refine XS.aload X40.here hx rfl (hb hby at_189) rfl rfl ?_
      exact kt
    obtain ⟨cq42, kq42, q42a, q42b, q42c⟩ := isOf hZ hh40 ((((((A1.keep Kc3).keep Kc30).keep Kc32).keep Kc34).keep Kc36).keep Kc38)
    obtain ⟨_, _, ⟨T42, L42, k42, n42⟩, -, X42, ⟨Lc42, hQ42, l42, y42, z42⟩, st42⟩ := X40.virtualBack hx (y := (⟨"com/example/loopsmith/loopsmith/queue/Slots", "grow", "()V"⟩ : MethodName)) (z := (⟨"com/example/loopsmith/loopsmith/queue/Slots", "grow", "()V"⟩ : MethodName)) hown (mvT hZ (hw _ (List.mem_of_getElem? (i := 40) rfl))) (mvT hZ (hw _ (List.mem_of_getElem? (i := 41) rfl))) (notFace_of_selects (args := #[]) (mvT hZ (hw _ (List.mem_of_getElem? (i := 43) rfl)))) (mvT hZ (hw _ (List.mem_of_getElem? (i := 43) rfl))) (mvT hZ (hw _ (List.mem_of_getElem? (i := 42) rfl))) (by decide) (backOf (W := 0) (rm6c0 l Z a0 hw [] b1 zi38 zt38 zf38 zw38 T38.heap n0 (Nat.le_trans Z0 K38.1) Zi38 Zt38 Zf38 Zb38 Zc38 ((((((A1.keep Kc3).keep Kc30).keep Kc32).keep Kc34).keep Kc36).keep Kc38) g_b1) hZ (hw _ (List.mem_of_getElem? (i := 44) rfl)) (hw _ (List.mem_of_getElem? (i := 2) rfl)) (by decide) (by decide)) q42a q42c (g := (mkF m 191 #[iv p0, iv p1, .val (.long q2), .second, rv b1, iv (2 : Int32), iv (32 : Int32), iv vat, rv it34, .unset] [(.ref b1)])) rfl (by rw [hml]; rfl) (Steps.refl _) (argsL := []) (rest := []) (lenOf pd6 rfl) rfl (by show 2 * 0 + _ ≤ _; exact Nat.le_of_eq rfl) (hb hby at_191) (fun _ _ => ⟨rfl, hh40, (by decide : 17 + 6 ≤ _), (by decide : 249 + 83 ≤ _)⟩)
    dsimp only [Pt.U, Pt.locs, Pt.cells, Pt.slots] at X42 l42 y42 z42 st42 hQ42
    subst l42 y42 z42
    obtain ⟨I1_42, T1_42, F1_42, i2_42, t2_42, f2_42, kI_42, kT_42, kF_42, ki_42, kt_42, kf_42, rfl, N42q, Kc42, hg42, Sl42⟩ := hQ42
    have N42 := Fr.app N40 N42q
    have K42 : Keep h0 T42.heap [] := K38.trans Kc42 (allS (Or.inr sz_b1) all0)
    obtain ⟨g_I1_42, g_T1_42, g_F1_42, g_i2_42, g_t2_42, g_f2_42⟩ := hg42
    obtain ⟨Sit42, Sti42, Sfl42, ⟨wb42, Sbl42⟩, Sca42, SeI142, SeT142, SeF142, Sei242, Set242, Sef242, SvI142, SvT142, SvF142, Svi242, Svt242, Svf242, SoI142, SoT142, SoF142, Soi242⟩ := id Sl42
    have sz_I1_42 : h0.size ≤ I1_42 := by rw [← hsz0]; exact g_I1_42
    have sz_T1_42 : h0.size ≤ T1_42 := by rw [← hsz0]; exact g_T1_42
    have sz_F1_42 : h0.size ≤ F1_42 := by rw [← hsz0]; exact g_F1_42
    have sz_i2_42 : h0.size ≤ i2_42 := by rw [← hsz0]; exact g_i2_42
    have sz_t2_42 : h0.size ≤ t2_42 := by rw [← hsz0]; exact g_t2_42
    have sz_f2_42 : h0.size ≤ f2_42 := by rw [← hsz0]; exact g_f2_42
    obtain ⟨low, h_low⟩ : ∃ z : Int32, z = (vat &&& (15 : Int32)) := ⟨_, rfl⟩
    have pre43 : ∀ t, Steps p.tables e below (T42.setTop (mkF m 205 #[iv p0, iv p1, .val (.long q2), .second, rv b1, iv (2 : Int32), iv (32 : Int32), iv vat, rv it34, iv low] [(.int low), (.ref b1)])) t → Steps p.tables e below (s₁.setTop (entryFrame m #[(.int p0), (.int p1), (.long q2)] maxLocals)) t := by
      intro t kt
      refine pre41 _ ?_
      show Steps p.tables e below (T40.setTop (mkF m 191 #[iv p0, iv p1, .val (.long q2), .second, rv b1, iv (2 : Int32), iv (32 : Int32), iv vat, rv it34, .unset] [(.ref b1)])) _
      refine st42.trans ?_
      show Steps p.tables e below (T42.setTop (mkF m 194 #[iv p0, iv p1, .val (.long q2), .second, rv b1, iv (2 : Int32), iv (32 : Int32), iv vat, rv it34, .unset] [])) _
      refine XS.iload X42.here hx rfl (hb hby at_194) rfl ?_
      refine XS.bipush X42.here hx rfl (hb hby at_196) ?_
      refine XS.iand X42.here hx rfl (hb hby at_198) rfl ?_
      refine XS.istore X42.here hx rfl (hb hby at_199) rfl (l' := #[iv p0, iv p1, .val (.long q2), .second, rv b1, iv (2 : Int32), iv (32 : Int32), iv vat, rv it34, iv (vat &&& (15 : Int32))]) rfl ?_
      show Steps p.tables e below (T42.setTop (mkF m 201 #[iv p0, iv p1, .val (.long q2), .second, rv b1, iv (2 : Int32), iv (32 : Int32), iv vat, rv it34, iv (vat &&& (15 : Int32))] [])) _
      rw [← h_low]
      show Steps p.tables e below (T42.setTop (mkF m 201 #[iv p0, iv p1, .val (.long q2), .second, rv b1, iv (2 : Int32), iv (32 : Int32), iv vat, rv it34, iv low] [])) _
      refine XS.aload X42.here hx rfl (hb hby at_201) rfl rfl ?_
      refine XS.iload X42.here hx rfl (hb hby at_203) rfl ?_
      exact kt
    obtain ⟨cq44, kq44, q44a, q44b, q44c⟩ := isOf hZ rfl (((((((A1.keep Kc3).keep Kc30).keep Kc32).keep Kc34).keep Kc36).keep Kc38).keep Kc42)
    obtain ⟨_, _, ⟨T44, L44, k44, n44⟩, -, X44, ⟨Lc44, hQ44, l44, y44, z44⟩, st44⟩ := X42.virtualBack hx (y := (⟨"com/example/loopsmith/loopsmith/queue/Slots", "when", "(I)J"⟩ : MethodName)) (z := (⟨"com/example/loopsmith/loopsmith/queue/Slots", "when", "(I)J"⟩ : MethodName)) hown (mvT hZ (hw _ (List.mem_of_getElem? (i := 116) rfl))) (mvT hZ (hw _ (List.mem_of_getElem? (i := 117) rfl))) (notFace_of_selects (args := #[]) (mvT hZ (hw _ (List.mem_of_getElem? (i := 119) rfl)))) (mvT hZ (hw _ (List.mem_of_getElem? (i := 119) rfl))) (mvT hZ (hw _ (List.mem_of_getElem? (i := 118) rfl))) (by decide) (backOf (W := 0) (rm17 l Z a0 hw [] b1 low T1_42 t2_42 kT_42 kt_42 [] (0 : Int64) T42.heap n0 (Nat.le_trans Z0 K42.1) Sti42 SvT142 (Arv.arh Svt242) (O0.keep K42 all0) S_bb (by rw [h_low]; exact own_low _) rfl) hZ (hw _ (List.mem_of_getElem? (i := 120) rfl)) (hw _ (List.mem_of_getElem? (i := 2) rfl)) (by decide) (by decide)) q44a q44c (g := (mkF m 205 #[iv p0, iv p1, .val (.long q2), .second, rv b1, iv (2 : Int32), iv (32 : Int32), iv vat, rv it34, iv low] [(.int low), (.ref b1)])) rfl (by rw [hml]; rfl) (Steps.refl _) (argsL := [(.int low)]) (rest := []) (lenOf pd16 rfl) rfl (by show 2 * 0 + _ ≤ _; exact Nat.le_of_eq rfl) (hb hby at_205) (fun _ _ => ⟨rfl, rfl, (by decide : 23 + 0 ≤ _), (by decide : 332 + 0 ≤ _)⟩)
    dsimp only [Pt.U, Pt.locs, Pt.cells, Pt.slots] at X44 l44 y44 z44 st44 hQ44
    subst l44 y44 z44
    obtain ⟨rfl, N44q, hh44⟩ := hQ44
    have N44 := Fr.app N42 N44q
    have pre45 : ∀ t, Steps p.tables e below (T44.setTop (mkF m 217 #[iv p0, iv p1, .val (.long q2), .second, rv b1, iv (2 : Int32), iv (32 : Int32), iv vat, rv it34, iv low] [(.int low), (.ref b1)])) t → Steps p.tables e below (s₁.setTop (entryFrame m #[(.int p0), (.int p1), (.long q2)] maxLocals)) t := by
      intro t kt
      refine pre43 _ ?_
      show Steps p.tables e below (T42.setTop (mkF m 205 #[iv p0, iv p1, .val (.long q2), .second, rv b1, iv (2 : Int32), iv (32 : Int32), iv vat, rv it34, iv low] [(.int low), (.ref b1)])) _
      refine st44.trans ?_
      show Steps p.tables e below (T44.setTop (mkF m 208 #[iv p0, iv p1, .val (.long q2), .second, rv b1, iv (2 : Int32), iv (32 : Int32), iv vat, rv it34, iv low] [(.long (0 : Int64))])) _
      refine XS.lconst X44.here hx rfl (hb hby at_208) ?_
      refine XS.lcmp X44.here hx rfl (hb hby at_209) rfl ?_
      show Steps p.tables e below (T44.setTop (mkF m 210 #[iv p0, iv p1, .val (.long q2), .second, rv b1, iv (2 : Int32), iv (32 : Int32), iv vat, rv it34, iv low] [(.int (lcmpW (0 : Int64) (0 : Int64)))])) _
      rw [show (lcmpW (0 : Int64) (0 : Int64)) = (0 : Int32) from (by decide)]
      show Steps p.tables e below (T44.setTop (mkF m 210 #[iv p0, iv p1, .val (.long q2), .second, rv b1, iv (2 : Int32), iv (32 : Int32), iv vat, rv it34, iv low] [(.int (0 : Int32))])) _
      refine XS.ifNo X44.here hx rfl (hb hby at_210) rfl ((if0 _ _).trans (teq (by decide)).2) ?_
      refine XS.aload X44.here hx rfl (hb hby at_213) rfl rfl ?_
      refine XS.iload X44.here hx rfl (hb hby at_215) rfl ?_
      exact kt
    obtain ⟨cq46, kq46, q46a, q46b, q46c⟩ := isOf hZ hh44 (((((((A1.keep Kc3).keep Kc30).keep Kc32).keep Kc34).keep Kc36).keep Kc38).keep Kc42)
    obtain ⟨_, _, ⟨T46, L46, k46, n46⟩, -, X46, ⟨Lc46, hQ46, l46, y46, z46⟩, st46⟩ := X44.virtualBack hx (y := (⟨"com/example/loopsmith/loopsmith/queue/Slots", "item", "(I)Ljava/lang/Object;"⟩ : MethodName)) (z := (⟨"com/example/loopsmith/loopsmith/queue/Slots", "item", "(I)Ljava/lang/Object;"⟩ : MethodName)) hown (mvT hZ (hw _ (List.mem_of_getElem? (i := 121) rfl))) (mvT hZ (hw _ (List.mem_of_getElem? (i := 122) rfl))) (notFace_of_selects (args := #[]) (mvT hZ (hw _ (List.mem_of_getElem? (i := 124) rfl)))) (mvT hZ (hw _ (List.mem_of_getElem? (i := 124) rfl))) (mvT hZ (hw _ (List.mem_of_getElem? (i := 123) rfl))) (by decide) (backOf (W := 0) (rm18n l Z a0 hw [] b1 low I1_42 i2_42 kI_42 ki_42 [] T42.heap n0 (Nat.le_trans Z0 K42.1) Sit42 SvI142 (Arv.arh Svi242) (O0.keep K42 all0) S_bb (by rw [h_low]; exact own_low _) rfl) hZ (hw _ (List.mem_of_getElem? (i := 125) rfl)) (hw _ (List.mem_of_getElem? (i := 2) rfl)) (by decide) (by decide)) q46a q46c (g := (mkF m 217 #[iv p0, iv p1, .val (.long q2), .second, rv b1, iv (2 : Int32), iv (32 : Int32), iv vat, rv it34, iv low] [(.int low), (.ref b1)])) rfl (by rw [hml]; rfl) (Steps.refl _) (argsL := [(.int low)]) (rest := []) (lenOf pd17 rfl) rfl (by show 2 * 0 + _ ≤ _; exact Nat.le_of_eq rfl) (hb hby at_217) (fun _ _ => ⟨rfl, hh44, (by decide : 23 + 0 ≤ _), (by decide : 332 + 0 ≤ _)⟩)
    dsimp only [Pt.U, Pt.locs, Pt.cells, Pt.slots] at X46 l46 y46 z46 st46 hQ46
    subst l46 y46 z46
    obtain ⟨rfl, N46q, hh46⟩ := hQ46
    have N46 := Fr.app N44 N46q
    have pre47 : ∀ t, Steps p.tables e below (T46.setTop (mkF m 228 #[iv p0, iv p1, .val (.long q2), .second, rv b1, iv (2 : Int32), iv (32 : Int32), iv vat, rv it34, iv low] [(.int (1 : Int32))])) t → Steps p.tables e below (s₁.setTop (entryFrame m #[(.int p0), (.int p1), (.long q2)] maxLocals)) t := by
      intro t kt
      refine pre45 _ ?_
      show Steps p.tables e below (T44.setTop (mkF m 217 #[iv p0, iv p1, .val (.long q2), .second, rv b1, iv (2 : Int32), iv (32 : Int32), iv vat, rv it34, iv low] [(.int low), (.ref b1)])) _
      refine st46.trans ?_
      show Steps p.tables e below (T46.setTop (mkF m 220 #[iv p0, iv p1, .val (.long q2), .second, rv b1, iv (2 : Int32), iv (32 : Int32), iv vat, rv it34, iv low] [.null])) _
      refine XS.ifnonnullNo X46.here hx rfl (hb hby at_220) rfl ?_
      refine XS.iconst X46.here hx rfl (hb hby at_223) ?_
      refine XS.goto X46.here hx rfl (pc0 := 224) (pc' := 228) rfl (hb hby at_224) (by decide) (by decide) ?_
      exact kt
    obtain ⟨fs, hr, hrun, hended, hW, hsame⟩ := X46.leave (v := some (.int (1 : Int32))) (fun h => by rw [Bd.returns] at h; cases h)
    refine ⟨_, _, pre47 _ ?_, hrun, hended, _, _, rfl, ?_, ⟨_, rfl⟩, hW, hsame.mono (by decide) (by decide)⟩
    · show Steps p.tables e below (T46.setTop (mkF m 228 #[iv p0, iv p1, .val (.long q2), .second, rv b1, iv (2 : Int32), iv (32 : Int32), iv vat, rv it34, iv low] [(.int (1 : Int32))])) _
      exact retN X46 hx (t := .boolean) Bd.returns (by simp) (hb hby at_228) hr
    · show Q0 Z p0 p1 q2 mr ca cc h0 n0 _ T46.heap _
      rw [hh46]
      exact ⟨rfl, N46⟩
  · have pre48 : ∀ t, Steps p.tables e below (T3.setTop (mkF m 22 #[iv p0, iv p1, .val (.long q2), .second, rv b1, iv (3 : Int32), .unset, .unset, .unset, .unset] [(.ref b1)])) t → Steps p.tables e below (s₁.setTop (entryFrame m #[(.int p0), (.int p1), (.long q2)] maxLocals)) t := by
      intro t kt
      refine pre4 _ ?_
      show Steps p.tables e below (T3.setTop (mkF m 14 #[iv p0, iv p1, .val (.long q2), .second, rv b1, iv (p0 &&& (3 : Int32)), .unset, .unset, .unset, .unset] [])) _
      rw [h4]
      show Steps p.tables e below (T3.setTop (mkF m 14 #[iv p0, iv p1, .val (.long q2), .second, rv b1, iv (3 : Int32), .unset, .unset, .unset, .unset] [])) _
      refine XS.iload X3.here hx rfl (hb hby at_14) rfl ?_
      refine XS.iconst X3.here hx rfl (hb hby at_16) ?_
      refine XS.icmpNo X3.here hx rfl (hb hby at_17) rfl (flt (by decide)).1 ?_
      refine XS.aload X3.here hx rfl (hb hby at_20) rfl rfl ?_
      exact kt
    obtain ⟨cq49, kq49, q49a, q49b, q49c⟩ := isOf hZ rfl (A1.keep Kc3)
    obtain ⟨_, _, ⟨T49, L49, k49, n49⟩, -, X49, ⟨Lc49, hQ49, l49, y49, z49⟩, st49⟩ := X3.virtualBack hx (y := (⟨"com/example/loopsmith/loopsmith/queue/Slots", "grow", "()V"⟩ : MethodName)) (z := (⟨"com/example/loopsmith/loopsmith/queue/Slots", "grow", "()V"⟩ : MethodName)) hown (mvT hZ (hw _ (List.mem_of_getElem? (i := 40) rfl))) (mvT hZ (hw _ (List.mem_of_getElem? (i := 41) rfl))) (notFace_of_selects (args := #[]) (mvT hZ (hw _ (List.mem_of_getElem? (i := 43) rfl)))) (mvT hZ (hw _ (List.mem_of_getElem? (i := 43) rfl))) (mvT hZ (hw _ (List.mem_of_getElem? (i := 42) rfl))) (by decide) (backOf (W := 0) (rm6c0 l Z a0 hw [] b1 zi3 zt3 zf3 zw3 T3.heap n0 (Nat.le_trans Z0 K3.1) Zi3 Zt3 Zf3 Zb3 Zc3 (A1.keep Kc3) g_b1) hZ (hw _ (List.mem_of_getElem? (i := 44) rfl)) (hw _ (List.mem_of_getElem? (i := 2) rfl)) (by decide) (by decide)) q49a q49c (g := (mkF m 22 #[iv p0, iv p1, .val (.long q2), .second, rv b1, iv (3 : Int32), .unset, .unset, .unset, .unset] [(.ref b1)])) rfl (by rw [hml]; rfl) (Steps.refl _) (argsL := []) (rest := []) (lenOf pd6 rfl) rfl (by show 2 * 0 + _ ≤ _; exact Nat.le_of_eq rfl) (hb hby at_22) (fun _ _ => ⟨rfl, rfl, (by decide : 4 + 6 ≤ _), (by decide : 5 + 83 ≤ _)⟩)
    dsimp only [Pt.U, Pt.locs, Pt.cells, Pt.slots] at X49 l49 y49 z49 st49 hQ49
    subst l49 y49 z49
    obtain ⟨I1_49, T1_49, F1_49, i2_49, t2_49, f2_49, kI_49, kT_49, kF_49, ki_49, kt_49, kf_49, rfl, N49q, Kc49, hg49, Sl49⟩ := hQ49
    have N49 := Fr.app N3 N49q
    have K49 : Keep h0 T49.heap [] := K3.trans Kc49 (allS (Or.inr sz_b1) all0)
    obtain ⟨g_I1_49, g_T1_49, g_F1_49, g_i2_49, g_t2_49, g_f2_49⟩ := hg49
    obtain ⟨Sit49, Sti49, Sfl49, ⟨wb49, Sbl49⟩, Sca49, SeI149, SeT149, SeF149, Sei249, Set249, Sef249, SvI149, SvT149, SvF149, Svi249, Svt249, Svf249, SoI149, SoT149, SoF149, Soi249⟩ := id Sl49
    have sz_I1_49 : h0.size ≤ I1_49 := by rw [← hsz0]; exact g_I1_49
    have sz_T1_49 : h0.size ≤ T1_49 := by rw [← hsz0]; exact g_T1_49
    have sz_F1_49 : h0.size ≤ F1_49 := by rw [← hsz0]; exact g_F1_49
    have sz_i2_49 : h0.size ≤ i2_49 := by rw [← hsz0]; exact g_i2_49
    have sz_t2_49 : h0.size ≤ t2_49 := by rw [← hsz0]; exact g_t2_49
    have sz_f2_49 : h0.size ≤ f2_49 := by rw [← hsz0]; exact g_f2_49
    have pre50 : ∀ t, Steps p.tables e below (T49.setTop (mkF m 33 #[iv p0, iv p1, .val (.long q2), .second, rv b1, iv (3 : Int32), .unset, .unset, .unset, .unset] [(.ref b1)])) t → Steps p.tables e below (s₁.setTop (entryFrame m #[(.int p0), (.int p1), (.long q2)] maxLocals)) t := by
      intro t kt
      refine pre48 _ ?_
      show Steps p.tables e below (T3.setTop (mkF m 22 #[iv p0, iv p1, .val (.long q2), .second, rv b1, iv (3 : Int32), .unset, .unset, .unset, .unset] [(.ref b1)])) _
      refine st49.trans ?_
      show Steps p.tables e below (T49.setTop (mkF m 25 #[iv p0, iv p1, .val (.long q2), .second, rv b1, iv (3 : Int32), .unset, .unset, .unset, .unset] [])) _
      refine XS.iload X49.here hx rfl (hb hby at_25) rfl ?_
      refine XS.iconst X49.here hx rfl (hb hby at_27) ?_
      refine XS.icmpNo X49.here hx rfl (hb hby at_28) rfl (flt (by decide)).1 ?_
      refine XS.aload X49.here hx rfl (hb hby at_31) rfl rfl ?_
      exact kt
    obtain ⟨cq51, kq51, q51a, q51b, q51c⟩ := isOf hZ rfl ((A1.keep Kc3).keep Kc49)
    obtain ⟨_, _, ⟨T51, L51, k51, n51⟩, -, X51, ⟨Lc51, hQ51, l51, y51, z51⟩, st51⟩ := X49.virtualBack hx (y := (⟨"com/example/loopsmith/loopsmith/queue/Slots", "grow", "()V"⟩ : MethodName)) (z := (⟨"com/example/loopsmith/loopsmith/queue/Slots", "grow", "()V"⟩ : MethodName)) hown (mvT hZ (hw _ (List.mem_of_getElem? (i := 40) rfl))) (mvT hZ (hw _ (List.mem_of_getElem? (i := 41) rfl))) (notFace_of_selects (args := #[]) (mvT hZ (hw _ (List.mem_of_getElem? (i := 43) rfl)))) (mvT hZ (hw _ (List.mem_of_getElem? (i := 43) rfl))) (mvT hZ (hw _ (List.mem_of_getElem? (i := 42) rfl))) (by decide) (backOf (W := 0) (rm6c16 l Z a0 hw [] b1 mr I1_49 T1_49 F1_49 i2_49 t2_49 f2_49 kI_49 kT_49 kF_49 ki_49 kt_49 kf_49 T49.heap n0 (Nat.le_trans Z0 K49.1) M_ ⟨Sit49, Sti49, Sfl49, ⟨_, Sbl49⟩, Sca49, SeI149, SeT149, SeF149, Sei249, Set249, Sef249, SvI149, SvT149, SvF149, Svi249, Svt249, Svf249, SoI149, SoT149, SoF149, Soi249⟩ ((A1.keep Kc3).keep Kc49) g_b1 g_I1_49 g_T1_49 g_F1_49 g_i2_49 g_t2_49 g_f2_49) hZ (hw _ (List.mem_of_getElem? (i := 44) rfl)) (hw _ (List.mem_of_getElem? (i := 2) rfl)) (by decide) (by decide)) q51a q51c (g := (mkF m 33 #[iv p0, iv p1, .val (.long q2), .second, rv b1, iv (3 : Int32), .unset, .unset, .unset, .unset] [(.ref b1)])) rfl (by rw [hml]; rfl) (Steps.refl _) (argsL := []) (rest := []) (lenOf pd6 rfl) rfl (by show 2 * 0 + _ ≤ _; exact Nat.le_of_eq rfl) (hb hby at_33) (fun _ _ => ⟨rfl, rfl, (by decide : 10 + 3 ≤ _), (by decide : 88 + 160 ≤ _)⟩)
    dsimp only [Pt.U, Pt.locs, Pt.cells, Pt.slots] at X51 l51 y51 z51 st51 hQ51
    subst l51 y51 z51
    obtain ⟨I1_51, T1_51, F1_51, i2_51, t2_51, f2_51, kI_51, kT_51, kF_51, ki_51, kt_51, kf_51, rfl, N51q, Kc51, hg51, Sl51⟩ := hQ51
    have N51 := Fr.app N49 N51q
    have K51 : Keep h0 T51.heap [] := K49.trans Kc51 (allS (Or.inr sz_b1) (allS (Or.inr sz_I1_49) (allS (Or.inr sz_T1_49) (allS (Or.inr sz_F1_49) all0))))
    obtain ⟨g_I1_51, g_T1_51, g_F1_51, g_i2_51, g_t2_51, g_f2_51⟩ := hg51
    obtain ⟨Sit51, Sti51, Sfl51, ⟨wb51, Sbl51⟩, Sca51, SeI151, SeT151, SeF151, Sei251, Set251, Sef251, SvI151, SvT151, SvF151, Svi251, Svt251, Svf251, SoI151, SoT151, SoF151, Soi251⟩ := id Sl51
    have sz_I1_51 : h0.size ≤ I1_51 := by rw [← hsz0]; exact g_I1_51
    have sz_T1_51 : h0.size ≤ T1_51 := by rw [← hsz0]; exact g_T1_51
    have sz_F1_51 : h0.size ≤ F1_51 := by rw [← hsz0]; exact g_F1_51
    have sz_i2_51 : h0.size ≤ i2_51 := by rw [← hsz0]; exact g_i2_51
    have sz_t2_51 : h0.size ≤ t2_51 := by rw [← hsz0]; exact g_t2_51
    have sz_f2_51 : h0.size ≤ f2_51 := by rw [← hsz0]; exact g_f2_51
    have pre52 : ∀ t, Steps p.tables e below (T51.setTop (mkF m 44 #[iv p0, iv p1, .val (.long q2), .second, rv b1, iv (3 : Int32), .unset, .unset, .unset, .unset] [(.ref b1)])) t → Steps p.tables e below (s₁.setTop (entryFrame m #[(.int p0), (.int p1), (.long q2)] maxLocals)) t := by
      intro t kt
      refine pre50 _ ?_
      show Steps p.tables e below (T49.setTop (mkF m 33 #[iv p0, iv p1, .val (.long q2), .second, rv b1, iv (3 : Int32), .unset, .unset, .unset, .unset] [(.ref b1)])) _
      refine st51.trans ?_
      show Steps p.tables e below (T51.setTop (mkF m 36 #[iv p0, iv p1, .val (.long q2), .second, rv b1, iv (3 : Int32), .unset, .unset, .unset, .unset] [])) _
      refine XS.iload X51.here hx rfl (hb hby at_36) rfl ?_
      refine XS.iconst X51.here hx rfl (hb hby at_38) ?_
      refine XS.icmpNo X51.here hx rfl (hb hby at_39) rfl (flt (by decide)).1 ?_
      refine XS.aload X51.here hx rfl (hb hby at_42) rfl rfl ?_
      exact kt
    obtain ⟨cq53, kq53, q53a, q53b, q53c⟩ := isOf hZ rfl (((A1.keep Kc3).keep Kc49).keep Kc51)
    obtain ⟨_, _, ⟨T53, L53, k53, n53⟩, -, X53, ⟨Lc53, hQ53, l53, y53, z53⟩, st53⟩ := X51.virtualBack hx (y := (⟨"com/example/loopsmith/loopsmith/queue/Slots", "grow", "()V"⟩ : MethodName)) (z := (⟨"com/example/loopsmith/loopsmith/queue/Slots", "grow", "()V"⟩ : MethodName)) hown (mvT hZ (hw _ (List.mem_of_getElem? (i := 40) rfl))) (mvT hZ (hw _ (List.mem_of_getElem? (i := 41) rfl))) (notFace_of_selects (args := #[]) (mvT hZ (hw _ (List.mem_of_getElem? (i := 43) rfl)))) (mvT hZ (hw _ (List.mem_of_getElem? (i := 43) rfl))) (mvT hZ (hw _ (List.mem_of_getElem? (i := 42) rfl))) (by decide) (backOf (W := 0) (rm6c32 l Z a0 hw [] b1 mr I1_51 T1_51 F1_51 i2_51 t2_51 f2_51 kI_51 kT_51 kF_51 ki_51 kt_51 kf_51 T51.heap n0 (Nat.le_trans Z0 K51.1) M_ ⟨Sit51, Sti51, Sfl51, ⟨_, Sbl51⟩, Sca51, SeI151, SeT151, SeF151, Sei251, Set251, Sef251, SvI151, SvT151, SvF151, Svi251, Svt251, Svf251, SoI151, SoT151, SoF151, Soi251⟩ (((A1.keep Kc3).keep Kc49).keep Kc51) g_b1 g_I1_51 g_T1_51 g_F1_51 g_i2_51 g_t2_51 g_f2_51) hZ (hw _ (List.mem_of_getElem? (i := 44) rfl)) (hw _ (List.mem_of_getElem? (i := 2) rfl)) (by decide) (by decide)) q53a q53c (g := (mkF m 44 #[iv p0, iv p1, .val (.long q2), .second, rv b1, iv (3 : Int32), .unset, .unset, .unset, .unset] [(.ref b1)])) rfl (by rw [hml]; rfl) (Steps.refl _) (argsL := []) (rest := []) (lenOf pd6 rfl) rfl (by show 2 * 0 + _ ≤ _; exact Nat.le_of_eq rfl) (hb hby at_44) (fun _ _ => ⟨rfl, rfl, (by decide : 13 + 3 ≤ _), (by decide : 248 + 320 ≤ _)⟩)
    dsimp only [Pt.U, Pt.locs, Pt.cells, Pt.slots] at X53 l53 y53 z53 st53 hQ53
    subst l53 y53 z53
    obtain ⟨I1_53, T1_53, F1_53, i2_53, t2_53, f2_53, kI_53, kT_53, kF_53, ki_53, kt_53, kf_53, rfl, N53q, Kc53, hg53, Sl53⟩ := hQ53
    have N53 := Fr.app N51 N53q
    have K53 : Keep h0 T53.heap [] := K51.trans Kc53 (allS (Or.inr sz_b1) (allS (Or.inr sz_I1_51) (allS (Or.inr sz_T1_51) (allS (Or.inr sz_F1_51) all0))))
    obtain ⟨g_I1_53, g_T1_53, g_F1_53, g_i2_53, g_t2_53, g_f2_53⟩ := hg53
    obtain ⟨Sit53, Sti53, Sfl53, ⟨wb53, Sbl53⟩, Sca53, SeI153, SeT153, SeF153, Sei253, Set253, Sef253, SvI153, SvT153, SvF153, Svi253, Svt253, Svf253, SoI153, SoT153, SoF153, Soi253⟩ := id Sl53
    have sz_I1_53 : h0.size ≤ I1_53 := by rw [← hsz0]; exact g_I1_53
    have sz_T1_53 : h0.size ≤ T1_53 := by rw [← hsz0]; exact g_T1_53
    have sz_F1_53 : h0.size ≤ F1_53 := by rw [← hsz0]; exact g_F1_53
    have sz_i2_53 : h0.size ≤ i2_53 := by rw [← hsz0]; exact g_i2_53
    have sz_t2_53 : h0.size ≤ t2_53 := by rw [← hsz0]; exact g_t2_53
    have sz_f2_53 : h0.size ≤ f2_53 := by rw [← hsz0]; exact g_f2_53
    have pre54 : ∀ t, Steps p.tables e below (T53.setTop (mkF m 86 #[iv p0, iv p1, .val (.long q2), .second, rv b1, iv (3 : Int32), iv (64 : Int32), iv (0 : Int32), .unset, .unset] [(.int p1)])) t → Steps p.tables e below (s₁.setTop (entryFrame m #[(.int p0), (.int p1), (.long q2)] maxLocals)) t := by
      intro t kt
      refine pre52 _ ?_
      show Steps p.tables e below (T51.setTop (mkF m 44 #[iv p0, iv p1, .val (.long q2), .second, rv b1, iv (3 : Int32), .unset, .unset, .unset, .unset] [(.ref b1)])) _
      refine st53.trans ?_
      show Steps p.tables e below (T53.setTop (mkF m 47 #[iv p0, iv p1, .val (.long q2), .second, rv b1, iv (3 : Int32), .unset, .unset, .unset, .unset] [])) _
      refine XS.iload X53.here hx rfl (hb hby at_47) rfl ?_
      refine XS.ifYes X53.here hx rfl (pc0 := 49) (pc' := 56) rfl (hb hby at_49) rfl ((if0 _ _).trans (feq (by decide)).2) (by decide) (by decide) ?_
      refine XS.iload X53.here hx rfl (hb hby at_56) rfl ?_
      refine XS.iconst X53.here hx rfl (hb hby at_58) ?_
      refine XS.icmpYes X53.here hx rfl (pc0 := 59) (pc' := 67) rfl (hb hby at_59) rfl (feq (by decide)).2 (by decide) (by decide) ?_
      refine XS.iload X53.here hx rfl (hb hby at_67) rfl ?_
      show Steps p.tables e below (T53.setTop (mkF m 69 #[iv p0, iv p1, .val (.long q2), .second, rv b1, iv (3 : Int32), .unset, .unset, .unset, .unset] [(.int (3 : Int32))])) _
      refine XS.iconst X53.here hx rfl (hb hby at_69) ?_
      refine XS.icmpYes X53.here hx rfl (pc0 := 70) (pc' := 78) rfl (hb hby at_70) rfl (feq (by decide)).2 (by decide) (by decide) ?_
      refine XS.bipush X53.here hx rfl (hb hby at_78) ?_
      refine XS.istore X53.here hx rfl (hb hby at_80) rfl (l' := #[iv p0, iv p1, .val (.long q2), .second, rv b1, iv (3 : Int32), iv (64 : Int32), .unset, .unset, .unset]) rfl ?_
      refine XS.iconst X53.here hx rfl (hb hby at_82) ?_
      refine XS.istore X53.here hx rfl (hb hby at_83) rfl (l' := #[iv p0, iv p1, .val (.long q2), .second, rv b1, iv (3 : Int32), iv (64 : Int32), iv (0 : Int32), .unset, .unset]) rfl ?_
      show Steps p.tables e below (T53.setTop (mkF m 85 #[iv p0, iv p1, .val (.long q2), .second, rv b1, iv (3 : Int32), iv (64 : Int32), iv (0 : Int32), .unset, .unset] [])) _
      refine XS.iloadN X53.here hx rfl (hb hby at_85) rfl ?_
      exact kt
    obtain ⟨_, _, ⟨T55, L55, k55, n55⟩, -, X55, ⟨Lc55, hQ55, l55, y55, z55⟩, st55⟩ := Jvm.LawKit.callS X53 hx (y := (⟨"java/lang/Integer", "valueOf", "(I)Ljava/lang/Integer;"⟩ : MethodName)) hown (mvT hZ (hw _ (List.mem_of_getElem? (i := 21) rfl))) (mvT hZ (hw _ (List.mem_of_getElem? (i := 22) rfl))) (mvT hZ (hw _ (List.mem_of_getElem? (i := 23) rfl))) (mvT hZ (hw _ (List.mem_of_getElem? (i := 24) rfl))) (by decide) (backOf (W := 0) (rm3 l Z a0 hw [] p1 ca cc T53.heap n0 (Nat.le_trans Z0 K53.1) (O0.keep K53 all0) S_high S_cache BX) hZ (hw _ (List.mem_of_getElem? (i := 24) rfl)) (hw _ (List.mem_of_getElem? (i := 23) rfl)) (by decide) (by decide)) (g := (mkF m 86 #[iv p0, iv p1, .val (.long q2), .second, rv b1, iv (3 : Int32), iv (64 : Int32), iv (0 : Int32), .unset, .unset] [(.int p1)])) rfl (by rw [hml]; rfl) (argsL := [(.int p1)]) (rest := []) (lenOf pd14 rfl) rfl (by show 2 * 0 + _ ≤ _; exact Nat.le_of_eq rfl) (hb hby at_86) (fun _ _ => ⟨rfl, rfl, (by decide : 16 + 1 ≤ _), (by decide : 568 + 1 ≤ _)⟩)
    dsimp only [Pt.U, Pt.locs, Pt.cells, Pt.slots] at X55 l55 y55 z55 st55 hQ55
    subst l55 y55 z55
    obtain ⟨it55, rfl, N55q, Kc55, Ei55⟩ := hQ55
    have N55 := Fr.app N53 N55q
    have K55 : Keep h0 T55.heap [] := K53.trans Kc55 all0
    obtain ⟨vat, h_vat⟩ : ∃ z : Int32, z = ((p1 &&& (2147483647 : Int32)) % (64 : Int32)) := ⟨_, rfl⟩
    have pre56 : ∀ t, Steps p.tables e below (T55.setTop (mkF m 115 #[iv p0, iv p1, .val (.long q2), .second, rv b1, iv (3 : Int32), iv (64 : Int32), iv vat, rv it55, .unset] [(.int (0 : Int32)), (.long (0 : Int64)), (.long q2), .null, (.ref it55), (.int vat), (.ref b1)])) t → Steps p.tables e below (s₁.setTop (entryFrame m #[(.int p0), (.int p1), (.long q2)] maxLocals)) t := by
      intro t kt
      refine pre54 _ ?_
      show Steps p.tables e below (T53.setTop (mkF m 86 #[iv p0, iv p1, .val (.long q2), .second, rv b1, iv (3 : Int32), iv (64 : Int32), iv (0 : Int32), .unset, .unset] [(.int p1)])) _
      refine st55 _ ?_
      show Steps p.tables e below (T55.setTop (mkF m 89 #[iv p0, iv p1, .val (.long q2), .second, rv b1, iv (3 : Int32), iv (64 : Int32), iv (0 : Int32), .unset, .unset] [(.ref it55)])) _
      refine XS.astore X55.here hx rfl (hb hby at_89) rfl rfl (l' := #[iv p0, iv p1, .val (.long q2), .second, rv b1, iv (3 : Int32), iv (64 : Int32), iv (0 : Int32), rv it55, .unset]) rfl ?_
      refine XS.iload X55.here hx rfl (hb hby at_91) rfl ?_
      refine XS.ifNo X55.here hx rfl (hb hby at_93) rfl ((if0 _ _).trans (tlt (by decide)).2.2.2) ?_
      refine XS.iloadN X55.here hx rfl (hb hby at_96) rfl ?_
      refine X55.ldcInt hx hown (mvT hZ (hw _ (List.mem_of_getElem? (i := 107) rfl))) (g := (mkF m 97 #[iv p0, iv p1, .val (.long q2), .second, rv b1, iv (3 : Int32), iv (64 : Int32), iv (0 : Int32), rv it55, .unset] [(.int p1)])) rfl (hb hby at_97) _ ?_
      show Steps p.tables e below (T55.setTop (mkF m 99 #[iv p0, iv p1, .val (.long q2), .second, rv b1, iv (3 : Int32), iv (64 : Int32), iv (0 : Int32), rv it55, .unset] [(.int (2147483647 : Int32)), (.int p1)])) _
      refine XS.iand X55.here hx rfl (hb hby at_99) rfl ?_
      refine XS.iload X55.here hx rfl (hb hby at_100) rfl ?_
      refine iremM X55 hx rfl (hb hby at_102) rfl (by decide) ?_
      show Steps p.tables e below (T55.setTop (mkF m 103 #[iv p0, iv p1, .val (.long q2), .second, rv b1, iv (3 : Int32), iv (64 : Int32), iv (0 : Int32), rv it55, .unset] [(.int ((p1 &&& (2147483647 : Int32)) % (64 : Int32)))])) _
      refine XS.istore X55.here hx rfl (hb hby at_103) rfl (l' := #[iv p0, iv p1, .val (.long q2), .second, rv b1, iv (3 : Int32), iv (64 : Int32), iv ((p1 &&& (2147483647 : Int32)) % (64 : Int32)), rv it55, .unset]) rfl ?_
      show Steps p.tables e below (T55.setTop (mkF m 105 #[iv p0, iv p1, .val (.long q2), .second, rv b1, iv (3 : Int32), iv (64 : Int32), iv ((p1 &&& (2147483647 : Int32)) % (64 : Int32)), rv it55, .unset] [])) _
      rw [← h_vat]
      show Steps p.tables e below (T55.setTop (mkF m 105 #[iv p0, iv p1, .val (.long q2), .second, rv b1, iv (3 : Int32), iv (64 : Int32), iv vat, rv it55, .unset] [])) _
      refine XS.aload X55.here hx rfl (hb hby at_105) rfl rfl ?_
      refine XS.iload X55.here hx rfl (hb hby at_107) rfl ?_
      refine XS.aload X55.here hx rfl (hb hby at_109) rfl rfl ?_
      refine XS.aconstNull X55.here hx rfl (hb hby at_111) ?_
      refine XS.lloadN X55.here hx rfl (hb hby at_112) rfl ?_
      refine XS.lconst X55.here hx rfl (hb hby at_113) ?_
      show Steps p.tables e below (T55.setTop (mkF m 114 #[iv p0, iv p1, .val (.long q2), .second, rv b1, iv (3 : Int32), iv (64 : Int32), iv vat, rv it55, .unset] [(.long (0 : Int64)), (.long q2), .null, (.ref it55), (.int vat), (.ref b1)])) _
      refine XS.iconst X55.here hx rfl (hb hby at_114) ?_
      exact kt
    obtain ⟨cq57, kq57, q57a, q57b, q57c⟩ := isOf hZ rfl (((((A1.keep Kc3).keep Kc49).keep Kc51).keep Kc53).keep Kc55)
    obtain ⟨_, _, ⟨T57, L57, k57, n57⟩, -, X57, ⟨Lc57, hQ57, l57, y57, z57⟩, st57⟩ := X55.virtualBack hx (y := (⟨"com/example/loopsmith/loopsmith/queue/Slots", "set", "(ILjava/lang/Object;Lcom/example/loopsmith/loopsmith/queue/Message$Target;JJB)V"⟩ : MethodName)) (z := (⟨"com/example/loopsmith/loopsmith/queue/Slots", "set", "(ILjava/lang/Object;Lcom/example/loopsmith/loopsmith/queue/Message$Target;JJB)V"⟩ : MethodName)) hown (mvT hZ (hw _ (List.mem_of_getElem? (i := 108) rfl))) (mvT hZ (hw _ (List.mem_of_getElem? (i := 109) rfl))) (notFace_of_selects (args := #[]) (mvT hZ (hw _ (List.mem_of_getElem? (i := 111) rfl)))) (mvT hZ (hw _ (List.mem_of_getElem? (i := 111) rfl))) (mvT hZ (hw _ (List.mem_of_getElem? (i := 110) rfl))) (by decide) (backOf (W := 0) (rm16c64 l Z a0 hw [] b1 vat it55 q2 I1_53 T1_53 F1_53 i2_53 t2_53 f2_53 kI_53 kT_53 kF_53 ki_53 kt_53 kf_53 T55.heap n0 (Nat.le_trans Z0 K55.1) ⟨(Sit53.keep Kc55 nin0), (Sti53.keep Kc55 nin0), (Sfl53.keep Kc55 nin0), ⟨_, (Sbl53.keep Kc55 nin0)⟩, (Sca53.keep Kc55 nin0), (SeI153.keep Kc55), (SeT153.keep Kc55), (SeF153.keep Kc55), (Sei253.keep Kc55), (Set253.keep Kc55), (Sef253.keep Kc55), (SvI153.keep Kc55 nin0), (SvT153.keep Kc55 nin0), (SvF153.keep Kc55 nin0), (Svi253.keep Kc55 nin0), (Svt253.keep Kc55 nin0), (Svf253.keep Kc55 nin0), SoI153, SoT153, SoF153, Soi253⟩ (((((A1.keep Kc3).keep Kc49).keep Kc51).keep Kc53).keep Kc55) g_b1 g_I1_53 g_T1_53 g_F1_53 g_i2_53 g_t2_53 g_f2_53 Ei55 (O0.keep K55 all0) S_bb (by rw [h_vat]; exact own_rem p1 (64 : Int32) 64 (by decide) (by decide))) hZ (hw _ (List.mem_of_getElem? (i := 112) rfl)) (hw _ (List.mem_of_getElem? (i := 2) rfl)) (by decide) (by decide)) q57a q57c (g := (mkF m 115 #[iv p0, iv p1, .val (.long q2), .second, rv b1, iv (3 : Int32), iv (64 : Int32), iv vat, rv it55, .unset] [(.int (0 : Int32)), (.long (0 : Int64)), (.long q2), .null, (.ref it55), (.int vat), (.ref b1)])) rfl (by rw [hml]; rfl) (Steps.refl _) (argsL := [(.int vat), (.ref it55), .null, (.long q2), (.long (0 : Int64)), (.int (0 : Int32))]) (rest := []) (lenOf pd15 rfl) rfl (by show 2 * 0 + _ ≤ _; exact Nat.le_of_eq rfl) (hb hby at_115) (fun _ _ => ⟨rfl, rfl, (by decide : 17 + 0 ≤ _), (by decide : 569 + 0 ≤ _)⟩)
    dsimp only [Pt.U, Pt.locs, Pt.cells, Pt.slots] at X57 l57 y57 z57 st57 hQ57
    subst l57 y57 z57
    obtain ⟨rfl, N57q, Kc57, Hi57, Ht57⟩ := hQ57
    have N57 := Fr.app N55 N57q
    have K57 : Keep h0 T57.heap [] := K55.trans Kc57 (allS (Or.inr sz_i2_53) (allS (Or.inr sz_t2_53) (allS (Or.inr sz_f2_53) all0)))
    have pre58 : ∀ t, Steps p.tables e below (T57.setTop (mkF m 120 #[iv p0, iv p1, .val (.long q2), .second, rv b1, iv (3 : Int32), iv (64 : Int32), iv vat, rv it55, .unset] [(.ref b1)])) t → Steps p.tables e below (s₁.setTop (entryFrame m #[(.int p0), (.int p1), (.long q2)] maxLocals)) t := by
      intro t kt
      refine pre56 _ ?_
      show Steps p.tables e below (T55.setTop (mkF m 115 #[iv p0, iv p1, .val (.long q2), .second, rv b1, iv (3 : Int32), iv (64 : Int32), iv vat, rv it55, .unset] [(.int (0 : Int32)), (.long (0 : Int64)), (.long q2), .null, (.ref it55), (.int vat), (.ref b1)])) _
      refine st57.trans ?_
      show Steps p.tables e below (T57.setTop (mkF m 118 #[iv p0, iv p1, .val (.long q2), .second, rv b1, iv (3 : Int32), iv (64 : Int32), iv vat, rv it55, .unset] [])) _
      refine XS.aload X57.here hx rfl (hb hby at_118) rfl rfl ?_
      exact kt
    obtain ⟨cq59, kq59, q59a, q59b, q59c⟩ := isOf hZ rfl ((((((A1.keep Kc3).keep Kc49).keep Kc51).keep Kc53).keep Kc55).keep Kc57)
    obtain ⟨_, _, ⟨T59, L59, k59, n59⟩, -, X59, ⟨Lc59, hQ59, l59, y59, z59⟩, st59⟩ := X57.virtualBack hx (y := (⟨"com/example/loopsmith/loopsmith/queue/Slots", "letGo", "()V"⟩ : MethodName)) (z := (⟨"com/example/loopsmith/loopsmith/queue/Slots", "letGo", "()V"⟩ : MethodName)) hown (mvT hZ (hw _ (List.mem_of_getElem? (i := 28) rfl))) (mvT hZ (hw _ (List.mem_of_getElem? (i := 29) rfl))) (notFace_of_selects (args := #[]) (mvT hZ (hw _ (List.mem_of_getElem? (i := 31) rfl)))) (mvT hZ (hw _ (List.mem_of_getElem? (i := 31) rfl))) (mvT hZ (hw _ (List.mem_of_getElem? (i := 30) rfl))) (by decide) (backOf (W := 0) (rm4c64 l Z a0 hw [] b1 I1_53 T1_53 F1_53 wb53 T57.heap n0 (Nat.le_trans Z0 K57.1) ((Sit53.keep Kc55 nin0).keep Kc57 (ninS (Exa.ne ((((((A1.keep Kc3).keep Kc49).keep Kc51).keep Kc53).keep Kc55).keep Kc57) ((Sei253.keep Kc55).keep Kc57) (by decide)) (ninS (Exa.ne ((((((A1.keep Kc3).keep Kc49).keep Kc51).keep Kc53).keep Kc55).keep Kc57) ((Set253.keep Kc55).keep Kc57) (by decide)) (ninS (Exa.ne ((((((A1.keep Kc3).keep Kc49).keep Kc51).keep Kc53).keep Kc55).keep Kc57) ((Sef253.keep Kc55).keep Kc57) (by decide)) nin0)))) ((Sti53.keep Kc55 nin0).keep Kc57 (ninS (Exa.ne ((((((A1.keep Kc3).keep Kc49).keep Kc51).keep Kc53).keep Kc55).keep Kc57) ((Sei253.keep Kc55).keep Kc57) (by decide)) (ninS (Exa.ne ((((((A1.keep Kc3).keep Kc49).keep Kc51).keep Kc53).keep Kc55).keep Kc57) ((Set253.keep Kc55).keep Kc57) (by decide)) (ninS (Exa.ne ((((((A1.keep Kc3).keep Kc49).keep Kc51).keep Kc53).keep Kc55).keep Kc57) ((Sef253.keep Kc55).keep Kc57) (by decide)) nin0)))) ((Sfl53.keep Kc55 nin0).keep Kc57 (ninS (Exa.ne ((((((A1.keep Kc3).keep Kc49).keep Kc51).keep Kc53).keep Kc55).keep Kc57) ((Sei253.keep Kc55).keep Kc57) (by decide)) (ninS (Exa.ne ((((((A1.keep Kc3).keep Kc49).keep Kc51).keep Kc53).keep Kc55).keep Kc57) ((Set253.keep Kc55).keep Kc57) (by decide)) (ninS (Exa.ne ((((((A1.keep Kc3).keep Kc49).keep Kc51).keep Kc53).keep Kc55).keep Kc57) ((Sef253.keep Kc55).keep Kc57) (by decide)) nin0)))) ((Sbl53.keep Kc55 nin0).keep Kc57 (ninS (Exa.ne ((((((A1.keep Kc3).keep Kc49).keep Kc51).keep Kc53).keep Kc55).keep Kc57) ((Sei253.keep Kc55).keep Kc57) (by decide)) (ninS (Exa.ne ((((((A1.keep Kc3).keep Kc49).keep Kc51).keep Kc53).keep Kc55).keep Kc57) ((Set253.keep Kc55).keep Kc57) (by decide)) (ninS (Exa.ne ((((((A1.keep Kc3).keep Kc49).keep Kc51).keep Kc53).keep Kc55).keep Kc57) ((Sef253.keep Kc55).keep Kc57) (by decide)) nin0)))) ((Sca53.keep Kc55 nin0).keep Kc57 (ninS (Exa.ne ((((((A1.keep Kc3).keep Kc49).keep Kc51).keep Kc53).keep Kc55).keep Kc57) ((Sei253.keep Kc55).keep Kc57) (by decide)) (ninS (Exa.ne ((((((A1.keep Kc3).keep Kc49).keep Kc51).keep Kc53).keep Kc55).keep Kc57) ((Set253.keep Kc55).keep Kc57) (by decide)) (ninS (Exa.ne ((((((A1.keep Kc3).keep Kc49).keep Kc51).keep Kc53).keep Kc55).keep Kc57) ((Sef253.keep Kc55).keep Kc57) (by decide)) nin0)))) ((((((A1.keep Kc3).keep Kc49).keep Kc51).keep Kc53).keep Kc55).keep Kc57) g_b1) hZ (hw _ (List.mem_of_getElem? (i := 32) rfl)) (hw _ (List.mem_of_getElem? (i := 2) rfl)) (by decide) (by decide)) q59a q59c (g := (mkF m 120 #[iv p0, iv p1, .val (.long q2), .second, rv b1, iv (3 : Int32), iv (64 : Int32), iv vat, rv it55, .unset] [(.ref b1)])) rfl (by rw [hml]; rfl) (Steps.refl _) (argsL := []) (rest := []) (lenOf pd6 rfl) rfl (by show 2 * 0 + _ ≤ _; exact Nat.le_of_eq rfl) (hb hby at_120) (fun _ _ => ⟨rfl, rfl, (by decide : 17 + 3 ≤ _), (by decide : 569 + 0 ≤ _)⟩)
    dsimp only [Pt.U, Pt.locs, Pt.cells, Pt.slots] at X59 l59 y59 z59 st59 hQ59
    subst l59 y59 z59
    obtain ⟨rfl, N59q, Kc59, ⟨zi59, zt59, zf59, Zi59, Zt59, Zf59⟩, ⟨zw59, Zb59⟩, Zc59⟩ := hQ59
    have N59 := Fr.app N57 N59q
    have K59 : Keep h0 T59.heap [] := K57.trans Kc59 (allS (Or.inr sz_b1) all0)
    have pre60 : ∀ t, Steps p.tables e below (T59.setTop (mkF m 181 #[iv p0, iv p1, .val (.long q2), .second, rv b1, iv (3 : Int32), iv (64 : Int32), iv vat, rv it55, .unset] [(.ref b1)])) t → Steps p.tables e below (s₁.setTop (entryFrame m #[(.int p0), (.int p1), (.long q2)] maxLocals)) t := by
      intro t kt
      refine pre58 _ ?_
      show Steps p.tables e below (T57.setTop (mkF m 120 #[iv p0, iv p1, .val (.long q2), .second, rv b1, iv (3 : Int32), iv (64 : Int32), iv vat, rv it55, .unset] [(.ref b1)])) _
      refine st59.trans ?_
      show Steps p.tables e below (T59.setTop (mkF m 123 #[iv p0, iv p1, .val (.long q2), .second, rv b1, iv (3 : Int32), iv (64 : Int32), iv vat, rv it55, .unset] [])) _
      refine XS.iload X59.here hx rfl (hb hby at_123) rfl ?_
      refine XS.bipush X59.here hx rfl (hb hby at_125) ?_
      refine XS.icmpYes X59.here hx rfl (pc0 := 127) (pc' := 179) rfl (hb hby at_127) rfl (tlt (by decide)).2.2.1 (by decide) (by decide) ?_
      refine XS.aload X59.here hx rfl (hb hby at_179) rfl rfl ?_
      exact kt
    obtain ⟨cq61, kq61, q61a, q61b, q61c⟩ := isOf hZ rfl (((((((A1.keep Kc3).keep Kc49).keep Kc51).keep Kc53).keep Kc55).keep Kc57).keep Kc59)
    obtain ⟨_, _, ⟨T61, L61, k61, n61⟩, -, X61, ⟨Lc61, hQ61, l61, y61, z61⟩, st61⟩ := X59.virtualBack hx (y := (⟨"com/example/loopsmith/loopsmith/queue/Slots", "capacity", "()I"⟩ : MethodName)) (z := (⟨"com/example/loopsmith/loopsmith/queue/Slots", "capacity", "()I"⟩ : MethodName)) hown (mvT hZ (hw _ (List.mem_of_getElem? (i := 35) rfl))) (mvT hZ (hw _ (List.mem_of_getElem? (i := 36) rfl))) (notFace_of_selects (args := #[]) (mvT hZ (hw _ (List.mem_of_getElem? (i := 38) rfl)))) (mvT hZ (hw _ (List.mem_of_getElem? (i := 38) rfl))) (mvT hZ (hw _ (List.mem_of_getElem? (i := 37) rfl))) (by decide) (backOf (W := 0) (rm5 l Z a0 hw [] b1 (0 : Int32) T59.heap n0 (Nat.le_trans Z0 K59.1) Zc59) hZ (hw _ (List.mem_of_getElem? (i := 39) rfl)) (hw _ (List.mem_of_getElem? (i := 2) rfl)) (by decide) (by decide)) q61a q61c (g := (mkF m 181 #[iv p0, iv p1, .val (.long q2), .second, rv b1, iv (3 : Int32), iv (64 : Int32), iv vat, rv it55, .unset] [(.ref b1)])) rfl (by rw [hml]; rfl) (Steps.refl _) (argsL := []) (rest := []) (lenOf pd5 rfl) rfl (by show 2 * 0 + _ ≤ _; exact Nat.le_of_eq rfl) (hb hby at_181) (fun _ _ => ⟨rfl, rfl, (by decide : 20 + 0 ≤ _), (by decide : 569 + 0 ≤ _)⟩)
    dsimp only [Pt.U, Pt.locs, Pt.cells, Pt.slots] at X61 l61 y61 z61 st61 hQ61
    subst l61 y61 z61
    obtain ⟨rfl, N61q, hh61⟩ := hQ61
    have N61 := Fr.app N59 N61q
    have pre62 : ∀ t, Steps p.tables e below (T61.setTop (mkF m 191 #[iv p0, iv p1, .val (.long q2), .second, rv b1, iv (3 : Int32), iv (64 : Int32), iv vat, rv it55, .unset] [(.ref b1)])) t → Steps p.tables e below (s₁.setTop (entryFrame m #[(.int p0), (.int p1), (.long q2)] maxLocals)) t := by
      intro t kt
      refine pre60 _ ?_
      show Steps p.tables e below (T59.setTop (mkF m 181 #[iv p0, iv p1, .val (.long q2), .second, rv b1, iv (3 : Int32), iv (64 : Int32), iv vat, rv it55, .unset] [(.ref b1)])) _
      refine st61.trans ?_
      show Steps p.tables e below (T61.setTop (mkF m 184 #[iv p0, iv p1, .val (.long q2), .second, rv b1, iv (3 : Int32), iv (64 : Int32), iv vat, rv it55, .unset] [(.int (0 : Int32))])) _
      refine XS.ifYes X61.here hx rfl (pc0 := 184) (pc' := 189) rfl (hb hby at_184) rfl ((if0 _ _).trans (teq (by decide)).1) (by decide) (by decide) ?_
      refine XS.aload X61.here hx rfl (hb hby at_189) rfl rfl ?_
      exact kt
    obtain ⟨cq63, kq63, q63a, q63b, q63c⟩ := isOf hZ hh61 (((((((A1.keep Kc3).keep Kc49).keep Kc51).keep Kc53).keep Kc55).keep Kc57).keep Kc59)
    obtain ⟨_, _, ⟨T63, L63, k63, n63⟩, -, X63, ⟨Lc63, hQ63, l63, y63, z63⟩, st63⟩ := X61.virtualBack hx (y := (⟨"com/example/loopsmith/loopsmith/queue/Slots", "grow", "()V"⟩ : MethodName)) (z := (⟨"com/example/loopsmith/loopsmith/queue/Slots", "grow", "()V"⟩ : MethodName)) hown (mvT hZ (hw _ (List.mem_of_getElem? (i := 40) rfl))) (mvT hZ (hw _ (List.mem_of_getElem? (i := 41) rfl))) (notFace_of_selects (args := #[]) (mvT hZ (hw _ (List.mem_of_getElem? (i := 43) rfl)))) (mvT hZ (hw _ (List.mem_of_getElem? (i := 43) rfl))) (mvT hZ (hw _ (List.mem_of_getElem? (i := 42) rfl))) (by decide) (backOf (W := 0) (rm6c0 l Z a0 hw [] b1 zi59 zt59 zf59 zw59 T59.heap n0 (Nat.le_trans Z0 K59.1) Zi59 Zt59 Zf59 Zb59 Zc59 (((((((A1.keep Kc3).keep Kc49).keep Kc51).keep Kc53).keep Kc55).keep Kc57).keep Kc59) g_b1) hZ (hw _ (List.mem_of_getElem? (i := 44) rfl)) (hw _ (List.mem_of_getElem? (i := 2) rfl)) (by decide) (by decide)) q63a q63c (g := (mkF m 191 #[iv p0, iv p1, .val (.long q2), .second, rv b1, iv (3 : Int32), iv (64 : Int32), iv vat, rv it55, .unset] [(.ref b1)])) rfl (by rw [hml]; rfl) (Steps.refl _) (argsL := []) (rest := []) (lenOf pd6 rfl) rfl (by show 2 * 0 + _ ≤ _; exact Nat.le_of_eq rfl) (hb hby at_191) (fun _ _ => ⟨rfl, hh61, (by decide : 20 + 6 ≤ _), (by decide : 569 + 83 ≤ _)⟩)
    dsimp only [Pt.U, Pt.locs, Pt.cells, Pt.slots] at X63 l63 y63 z63 st63 hQ63
    subst l63 y63 z63
    obtain ⟨I1_63, T1_63, F1_63, i2_63, t2_63, f2_63, kI_63, kT_63, kF_63, ki_63, kt_63, kf_63, rfl, N63q, Kc63, hg63, Sl63⟩ := hQ63
    have N63 := Fr.app N61 N63q
    have K63 : Keep h0 T63.heap [] := K59.trans Kc63 (allS (Or.inr sz_b1) all0)
    obtain ⟨g_I1_63, g_T1_63, g_F1_63, g_i2_63, g_t2_63, g_f2_63⟩ := hg63
    obtain ⟨Sit63, Sti63, Sfl63, ⟨wb63, Sbl63⟩, Sca63, SeI163, SeT163, SeF163, Sei263, Set263, Sef263, SvI163, SvT163, SvF163, Svi263, Svt263, Svf263, SoI163, SoT163, SoF163, Soi263⟩ := id Sl63
    have sz_I1_63 : h0.size ≤ I1_63 := by rw [← hsz0]; exact g_I1_63
    have sz_T1_63 : h0.size ≤ T1_63 := by rw [← hsz0]; exact g_T1_63
    have sz_F1_63 : h0.size ≤ F1_63 := by rw [← hsz0]; exact g_F1_63
    have sz_i2_63 : h0.size ≤ i2_63 := by rw [← hsz0]; exact g_i2_63
    have sz_t2_63 : h0.size ≤ t2_63 := by rw [← hsz0]; exact g_t2_63
    have sz_f2_63 : h0.size ≤ f2_63 := by rw [← hsz0]; exact g_f2_63
    obtain ⟨low, h_low⟩ : ∃ z : Int32, z = (vat &&& (15 : Int32)) := ⟨_, rfl⟩
    have pre64 : ∀ t, Steps p.tables e below (T63.setTop (mkF m 205 #[iv p0, iv p1, .val (.long q2), .second, rv b1, iv (3 : Int32), iv (64 : Int32), iv vat, rv it55, iv low] [(.int low), (.ref b1)])) t → Steps p.tables e below (s₁.setTop (entryFrame m #[(.int p0), (.int p1), (.long q2)] maxLocals)) t := by
      intro t kt
      refine pre62 _ ?_
      show Steps p.tables e below (T61.setTop (mkF m 191 #[iv p0, iv p1, .val (.long q2), .second, rv b1, iv (3 : Int32), iv (64 : Int32), iv vat, rv it55, .unset] [(.ref b1)])) _
      refine st63.trans ?_
      show Steps p.tables e below (T63.setTop (mkF m 194 #[iv p0, iv p1, .val (.long q2), .second, rv b1, iv (3 : Int32), iv (64 : Int32), iv vat, rv it55, .unset] [])) _
      refine XS.iload X63.here hx rfl (hb hby at_194) rfl ?_
      refine XS.bipush X63.here hx rfl (hb hby at_196) ?_
      refine XS.iand X63.here hx rfl (hb hby at_198) rfl ?_
      refine XS.istore X63.here hx rfl (hb hby at_199) rfl (l' := #[iv p0, iv p1, .val (.long q2), .second, rv b1, iv (3 : Int32), iv (64 : Int32), iv vat, rv it55, iv (vat &&& (15 : Int32))]) rfl ?_
      show Steps p.tables e below (T63.setTop (mkF m 201 #[iv p0, iv p1, .val (.long q2), .second, rv b1, iv (3 : Int32), iv (64 : Int32), iv vat, rv it55, iv (vat &&& (15 : Int32))] [])) _
      rw [← h_low]
      show Steps p.tables e below (T63.setTop (mkF m 201 #[iv p0, iv p1, .val (.long q2), .second, rv b1, iv (3 : Int32), iv (64 : Int32), iv vat, rv it55, iv low] [])) _
      refine XS.aload X63.here hx rfl (hb hby at_201) rfl rfl ?_
      refine XS.iload X63.here hx rfl (hb hby at_203) rfl ?_
      exact kt
    obtain ⟨cq65, kq65, q65a, q65b, q65c⟩ := isOf hZ rfl ((((((((A1.keep Kc3).keep Kc49).keep Kc51).keep Kc53).keep Kc55).keep Kc57).keep Kc59).keep Kc63)
    obtain ⟨_, _, ⟨T65, L65, k65, n65⟩, -, X65, ⟨Lc65, hQ65, l65, y65, z65⟩, st65⟩ := X63.virtualBack hx (y := (⟨"com/example/loopsmith/loopsmith/queue/Slots", "when", "(I)J"⟩ : MethodName)) (z := (⟨"com/example/loopsmith/loopsmith/queue/Slots", "when", "(I)J"⟩ : MethodName)) hown (mvT hZ (hw _ (List.mem_of_getElem? (i := 116) rfl))) (mvT hZ (hw _ (List.mem_of_getElem? (i := 117) rfl))) (notFace_of_selects (args := #[]) (mvT hZ (hw _ (List.mem_of_getElem? (i := 119) rfl)))) (mvT hZ (hw _ (List.mem_of_getElem? (i := 119) rfl))) (mvT hZ (hw _ (List.mem_of_getElem? (i := 118) rfl))) (by decide) (backOf (W := 0) (rm17 l Z a0 hw [] b1 low T1_63 t2_63 kT_63 kt_63 [] (0 : Int64) T63.heap n0 (Nat.le_trans Z0 K63.1) Sti63 SvT163 (Arv.arh Svt263) (O0.keep K63 all0) S_bb (by rw [h_low]; exact own_low _) rfl) hZ (hw _ (List.mem_of_getElem? (i := 120) rfl)) (hw _ (List.mem_of_getElem? (i := 2) rfl)) (by decide) (by decide)) q65a q65c (g := (mkF m 205 #[iv p0, iv p1, .val (.long q2), .second, rv b1, iv (3 : Int32), iv (64 : Int32), iv vat, rv it55, iv low] [(.int low), (.ref b1)])) rfl (by rw [hml]; rfl) (Steps.refl _) (argsL := [(.int low)]) (rest := []) (lenOf pd16 rfl) rfl (by show 2 * 0 + _ ≤ _; exact Nat.le_of_eq rfl) (hb hby at_205) (fun _ _ => ⟨rfl, rfl, (by decide : 26 + 0 ≤ _), (by decide : 652 + 0 ≤ _)⟩)
    dsimp only [Pt.U, Pt.locs, Pt.cells, Pt.slots] at X65 l65 y65 z65 st65 hQ65
    subst l65 y65 z65
    obtain ⟨rfl, N65q, hh65⟩ := hQ65
    have N65 := Fr.app N63 N65q
    have pre66 : ∀ t, Steps p.tables e below (T65.setTop (mkF m 217 #[iv p0, iv p1, .val (.long q2), .second, rv b1, iv (3 : Int32), iv (64 : Int32), iv vat, rv it55, iv low] [(.int low), (.ref b1)])) t → Steps p.tables e below (s₁.setTop (entryFrame m #[(.int p0), (.int p1), (.long q2)] maxLocals)) t := by
      intro t kt
      refine pre64 _ ?_
      show Steps p.tables e below (T63.setTop (mkF m 205 #[iv p0, iv p1, .val (.long q2), .second, rv b1, iv (3 : Int32), iv (64 : Int32), iv vat, rv it55, iv low] [(.int low), (.ref b1)])) _
      refine st65.trans ?_
      show Steps p.tables e below (T65.setTop (mkF m 208 #[iv p0, iv p1, .val (.long q2), .second, rv b1, iv (3 : Int32), iv (64 : Int32), iv vat, rv it55, iv low] [(.long (0 : Int64))])) _
      refine XS.lconst X65.here hx rfl (hb hby at_208) ?_
      refine XS.lcmp X65.here hx rfl (hb hby at_209) rfl ?_
      show Steps p.tables e below (T65.setTop (mkF m 210 #[iv p0, iv p1, .val (.long q2), .second, rv b1, iv (3 : Int32), iv (64 : Int32), iv vat, rv it55, iv low] [(.int (lcmpW (0 : Int64) (0 : Int64)))])) _
      rw [show (lcmpW (0 : Int64) (0 : Int64)) = (0 : Int32) from (by decide)]
      show Steps p.tables e below (T65.setTop (mkF m 210 #[iv p0, iv p1, .val (.long q2), .second, rv b1, iv (3 : Int32), iv (64 : Int32), iv vat, rv it55, iv low] [(.int (0 : Int32))])) _
      refine XS.ifNo X65.here hx rfl (hb hby at_210) rfl ((if0 _ _).trans (teq (by decide)).2) ?_
      refine XS.aload X65.here hx rfl (hb hby at_213) rfl rfl ?_
      refine XS.iload X65.here hx rfl (hb hby at_215) rfl ?_
      exact kt
    obtain ⟨cq67, kq67, q67a, q67b, q67c⟩ := isOf hZ hh65 ((((((((A1.keep Kc3).keep Kc49).keep Kc51).keep Kc53).keep Kc55).keep Kc57).keep Kc59).keep Kc63)
    obtain ⟨_, _, ⟨T67, L67, k67, n67⟩, -, X67, ⟨Lc67, hQ67, l67, y67, z67⟩, st67⟩ := X65.virtualBack hx (y := (⟨"com/example/loopsmith/loopsmith/queue/Slots", "item", "(I)Ljava/lang/Object;"⟩ : MethodName)) (z := (⟨"com/example/loopsmith/loopsmith/queue/Slots", "item", "(I)Ljava/lang/Object;"⟩ : MethodName)) hown (mvT hZ (hw _ (List.mem_of_getElem? (i := 121) rfl))) (mvT hZ (hw _ (List.mem_of_getElem? (i := 122) rfl))) (notFace_of_selects (args := #[]) (mvT hZ (hw _ (List.mem_of_getElem? (i := 124) rfl)))) (mvT hZ (hw _ (List.mem_of_getElem? (i := 124) rfl))) (mvT hZ (hw _ (List.mem_of_getElem? (i := 123) rfl))) (by decide) (backOf (W := 0) (rm18n l Z a0 hw [] b1 low I1_63 i2_63 kI_63 ki_63 [] T63.heap n0 (Nat.le_trans Z0 K63.1) Sit63 SvI163 (Arv.arh Svi263) (O0.keep K63 all0) S_bb (by rw [h_low]; exact own_low _) rfl) hZ (hw _ (List.mem_of_getElem? (i := 125) rfl)) (hw _ (List.mem_of_getElem? (i := 2) rfl)) (by decide) (by decide)) q67a q67c (g := (mkF m 217 #[iv p0, iv p1, .val (.long q2), .second, rv b1, iv (3 : Int32), iv (64 : Int32), iv vat, rv it55, iv low] [(.int low), (.ref b1)])) rfl (by rw [hml]; rfl) (Steps.refl _) (argsL := [(.int low)]) (rest := []) (lenOf pd17 rfl) rfl (by show 2 * 0 + _ ≤ _; exact Nat.le_of_eq rfl) (hb hby at_217) (fun _ _ => ⟨rfl, hh65, (by decide : 26 + 0 ≤ _), (by decide : 652 + 0 ≤ _)⟩)
    dsimp only [Pt.U, Pt.locs, Pt.cells, Pt.slots] at X67 l67 y67 z67 st67 hQ67
    subst l67 y67 z67
    obtain ⟨rfl, N67q, hh67⟩ := hQ67
    have N67 := Fr.app N65 N67q
    have pre68 : ∀ t, Steps p.tables e below (T67.setTop (mkF m 228 #[iv p0, iv p1, .val (.long q2), .second, rv b1, iv (3 : Int32), iv (64 : Int32), iv vat, rv it55, iv low] [(.int (1 : Int32))])) t → Steps p.tables e below (s₁.setTop (entryFrame m #[(.int p0), (.int p1), (.long q2)] maxLocals)) t := by
      intro t kt
      refine pre66 _ ?_
      show Steps p.tables e below (T65.setTop (mkF m 217 #[iv p0, iv p1, .val (.long q2), .second, rv b1, iv (3 : Int32), iv (64 : Int32), iv vat, rv it55, iv low] [(.int low), (.ref b1)])) _
      refine st67.trans ?_
      show Steps p.tables e below (T67.setTop (mkF m 220 #[iv p0, iv p1, .val (.long q2), .second, rv b1, iv (3 : Int32), iv (64 : Int32), iv vat, rv it55, iv low] [.null])) _
      refine XS.ifnonnullNo X67.here hx rfl (hb hby at_220) rfl ?_
      refine XS.iconst X67.here hx rfl (hb hby at_223) ?_
      refine XS.goto X67.here hx rfl (pc0 := 224) (pc' := 228) rfl (hb hby at_224) (by decide) (by decide) ?_
      exact kt
    obtain ⟨fs, hr, hrun, hended, hW, hsame⟩ := X67.leave (v := some (.int (1 : Int32))) (fun h => by rw [Bd.returns] at h; cases h)
    refine ⟨_, _, pre68 _ ?_, hrun, hended, _, _, rfl, ?_, ⟨_, rfl⟩, hW, hsame.mono (by decide) (by decide)⟩
    · show Steps p.tables e below (T67.setTop (mkF m 228 #[iv p0, iv p1, .val (.long q2), .second, rv b1, iv (3 : Int32), iv (64 : Int32), iv vat, rv it55, iv low] [(.int (1 : Int32))])) _
      exact retN X67 hx (t := .boolean) Bd.returns (by simp) (hb hby at_228) hr
    · show Q0 Z p0 p1 q2 mr ca cc h0 n0 _ T67.heap _
      rw [hh67]
      exact ⟨rfl, N67⟩
theorem own_len {t : Term} {args : Array Value} {s : State} {ca : Addr} {cc : Cell} {ty : FieldType} (e : t.eval args s none [] s = some (.ref ca)) (A : Arr s s.heap ca cc ty) (h : (Term.length t).eval args s none [] s = some (.int (256 : Int32))) : cc.slots.size < 2 ^ 31 ∧ cc.slots.size.toInt32 = (256 : Int32) ∧ True := by
  obtain ⟨a, cell, h1, h2, h3⟩ := Term.length_spec h
  cases e.symm.trans h1
  have h4 := A.fin (Vm.Alike.refl _)
  cases h2.symm.trans h4
  refine ⟨?_, (Value.int.inj h3).symm, trivial⟩
  refine Classical.byContradiction fun q => ?_
  have : (Term.length t).eval args s none [] s = none := by simp [Term.eval, e, h4, q]
  rw [this] at h; cases h
theorem own_subix {args : Array Value} {s : State} (j : Int32) (hj : ¬ j < 0) : (Term.sub (Term.index 0) (Term.int (128 : Int32))).eval args s none [j.toNatClampNeg] s = some (.int (j - 128)) := by
  have e := idx_at (args := args) (first := s) (o := none) (s := s) hj
  simp [Term.eval] at e ⊢
  simp [e]
set_option maxRecDepth 65536 in
set_option maxHeartbeats 40000000 in
theorem comes_1 {Post : Tables → Env → Array Value → State → Outcome → State → Prop} (hpost : ∀ tb e args s v u, (limb_1_1.after args s (.returned v) u = true ∧ limb_1_2.after args s (.returned v) u = true ∧ True) → FrameEnd s (.returned v) u (Jvm.fieldLocs frame_1_writes args s ++ Jvm.arrayLocs frame_1_arrays args s ++ Jvm.staticLocs frame_1_statics s) 64 1408 → Post tb e args s (.returned v) u) :
    ArmFor flags0 classFile x code maxLocals ret World_1 tables_1 room_1 Calls_1 rest_1 Pre_1 Post := by
  intro l hfl _ _ p e ha hc hk s m args below hf hA hF happ hP
  obtain ⟨hcalls, hrest, hpre⟩ := hP
  obtain ⟨-, -, -, hnamed, -, -, -, hat⟩ := (Spec.applies_iff hf).mp happ
  obtain ⟨hg, hn⟩ := and_e (Cond.before_iff.mp (show (Jvm.Cond.and given_1 narrow_1).before args s = true from hpre))
  obtain ⟨gg1, gg2⟩ := and_e hg
  obtain ⟨gg3, gg4⟩ := and_e gg2
  obtain ⟨gg5, gg6⟩ := and_e gg4
  obtain ⟨w0, w1, w2, rfl⟩ : ∃ w0 w1 w2 : Value, args = #[w0, w1, w2] := by
    have hs : args.size = 3 := by simpa [Cond.value, given_1] using gg1
    obtain ⟨L⟩ := args
    match L, hs with
    | [w0, w1, w2], _ => exact ⟨w0, w1, w2, rfl⟩
  have hw := fun d (hd : d ∈ tables_1) => atoms_spec (ws := Jvm.Cond.code x code maxLocals ret :: tables_1) hat d (List.mem_cons_of_mem _ hd)
  have hfit : Fit s := fun {y c} hc i hi => by
    obtain ⟨ha, rfl⟩ := Array.getElem?_eq_some_iff.mp hc
    have q := List.all_eq_true.mp ((Array.all_eq_true_iff_forall_mem.mp hF) _ (Array.getElem_mem ha)) i (List.mem_range.mpr hi)
    simpa [Array.getElem?_eq_getElem hi] using q
  obtain ⟨hsets, hown0⟩ := atoms_of _ (rest_1_c_eq ▸ (show rest_1_c.before _ s = true from hrest))
  have hr0 := Cond.before_iff.mp hown0
  obtain ⟨i0, ei0⟩ := is_v gg3
  obtain rfl : w0 = (.int i0) := Option.some.inj ei0
  obtain ⟨i1, ei1⟩ := is_v gg5
  obtain rfl : w1 = (.int i1) := Option.some.inj ei1
  obtain ⟨i2, ei2⟩ := isL_v gg6
  obtain rfl : w2 = (.long i2) := Option.some.inj ei2
  obtain ⟨⟨c1, k1, mr, a1, a2, a3, a4⟩, -⟩ := hcalls
  have MM : Mir s "[Ljava/lang/Object;" mr := ⟨c1, k1, a1, a2, a3, a4⟩
  have Sbb := Sta.start (eqv_i (Term.int_eval (10 : Int32)) hn) (Or.inr ⟨(hw _ (List.mem_of_getElem? (i := 2) rfl)), (hw _ (List.mem_of_getElem? (i := 114) rfl))⟩)
  have e3 := eqv_i (Term.int_eval (127 : Int32)) (Cond.before_iff.mp (hsets _ (List.mem_of_getElem? (i := 3) rfl)))
  have Shi := Sta.start e3 (Or.inl (hsets _ (List.mem_of_getElem? (i := 1) rfl)))
  have h5 := Cond.before_iff.mp (hsets _ (List.mem_of_getElem? (i := 5) rfl))
  obtain ⟨ca, eca⟩ := exa_v h5
  have Sca := Sta.start eca (Or.inr ⟨(hw _ (List.mem_of_getElem? (i := 26) rfl)), hsets _ (List.mem_of_getElem? (i := 2) rfl)⟩)
  obtain ⟨cc, Acc⟩ := Arr.start eca (Cond.before_iff.mp (hsets _ (List.mem_of_getElem? (i := 4) rfl)))
  have e6 := eqv_i (Term.int_eval (256 : Int32)) (Cond.before_iff.mp (hsets _ (List.mem_of_getElem? (i := 6) rfl)))
  obtain ⟨q1, q2, q3⟩ := own_len eca Acc e6
  have BX : Bxs s ca cc "java/lang/Integer" "I" (256 : Int32) (fun j => .int (j - 128)) := Bxs.start (fun _ => eca) Acc q1 q2 (by decide) (Cond.before_iff.mp (hsets _ (List.mem_of_getElem? (i := 7) rfl))) (fun X j hj hv => eqv_i (own_subix j hj) hv)
  obtain ⟨n, o, h1, h2, h3, _, L, rfl, ⟨rfl, N⟩, hq⟩ := rm0 l s _ hw tables_1 i0 i1 i2 mr ca cc s.heap s.heap.size (Nat.le_refl _) MM (Old.start s) Sbb Shi Sca BX rfl p e ha hc hk s m _ below hf ((Spec.applies_iff_loose hf).mp happ).1 ⟨rfl, State.Warmed39.refl s, rfl⟩ trivial
  refine ⟨n, _, h1, h2, h3, hpost _ _ _ _ _ _ ⟨Cond.after_iff.mpr rfl, Cond.after_iff.mpr (eq_i res_at (Term.int_eval (1)) rfl), trivial⟩ ⟨hq.1, hq.2.1, (hq.2.2.sift fun y hy => Or.inr (N y hy)).mono (by decide) (by decide)⟩⟩
theorem main_1_1 : Claimed_1_1 := comes_1 fun _ _ _ _ _ _ h hF => ⟨h.1, hF⟩
theorem main_1_2 : Claimed_1_2 := comes_1 fun _ _ _ _ _ _ h hF => ⟨h.2.1, hF⟩
end Jvm.Pilot.@@N@@
namespace Jvm.Pilot.@@N@@
open Jvm Jvm.ClassFile Sem Op Lib Jvm.Free Jvm.Stand Jvm.Pilot.@@N@@.Jvm.D
/-! MADE BY PROGRAM (witnessworld.py) out of the Statement's table words and the real class files: 22 classes; the members and pool entries that the words name. The judged class is class 1, her method 1. -/
namespace start1
open Jvm.ClassFile
def u (s : String) : CpInfo := .utf8 (stringToUtf16 s)
/-- a pool by its gaps: so many unusable entries, then the entry; so many at the end -/
def gap : Nat → List CpInfo → List CpInfo
  | 0, r => r
  | n + 1, r => .unusable :: gap n r
def poolList (es : List (Nat × CpInfo)) (last : Nat) : List CpInfo := es.foldr (fun e r => gap e.1 (e.2 :: r)) (gap last [])
def pool (es : List (Nat × CpInfo)) (last : Nat) : Array CpInfo := ⟨poolList es last⟩
def fileOf (pool : Array CpInfo) (this : Nat) (attrs : Array Attribute := #[]) (ms : Array MethodInfo := #[]) (fl : Nat := 33) (sup : Nat := 0) (ifs : Array Nat := #[]) (fds : Array FieldInfo := #[]) : ClassFile where
  minorVersion := 0
  majorVersion := 65
  constantPool := pool
  accessFlags := fl
  thisClass := this
  superClass := sup
  interfaces := ifs
  fields := fds
  methods := ms
  attributes := attrs
def plain (name : String) (sup : Option ClassId) : Class where
  name := name
  kind := .ordinary
  loader := none
  accessFlags := 33
  super := sup
  interfaces := #[]
  cf := none
  fields := #[]
  methods := #[]
  instanceTypes := #[]
  staticTypes := #[]
  resolved := #[]
  callSites := []
  init := .initialized
  statics := none
  mirror := none

def pool0 : Array CpInfo := pool [(5, u "<init>"), (0, u "()V"), (1, .class_ 10), (1, u "java/lang/Object"), (0, u "getClass"), (0, u "()Ljava/lang/Class;")] 111

def k0c0 : Code := { maxStack := 0, maxLocals := 1, code := object_method_1_code, exceptionTable := #[], attributes := #[] }
def k0m0 : Method := { name := "<init>", desc := "()V", sig := { parameters := [], returnType := none }, accessFlags := 1, code := some k0c0 }
def k0m1 : Method := { name := "getClass", desc := "()Ljava/lang/Class;", sig := { parameters := [], returnType := some (.object "java/lang/Class") }, accessFlags := 273, code := none }
/-- java/lang/Object -/
def k0 : Class := { plain "java/lang/Object" none with
  accessFlags := 33
  interfaces := #[]
  cf := some (fileOf pool0 8 #[] #[{ accessFlags := 1, nameIndex := 5, descriptorIndex := 6, attributes := #[] }, { accessFlags := 273, nameIndex := 11, descriptorIndex := 12, attributes := #[] }] 33 0 #[] #[])
  fields := #[]
  methods := #[k0m0, k0m1]
  instanceTypes := #[]
  staticTypes := #[]
  resolved := Array.replicate 124 none
  statics := none }

def pool1 : Array CpInfo := pool [(2, .class_ 4), (0, .nameAndType 5 6), (0, u "java/lang/Object"), (0, u "<init>"), (0, u "()V"), (0, .class_ 8), (0, u "com/example/loopsmith/loopsmith/queue/Slots"), (0, .methodref 7 3), (0, .methodref 7 11), (0, .nameAndType 12 6), (0, u "grow"), (0, .methodref 14 15), (0, .class_ 16), (0, .nameAndType 17 18), (0, u "java/lang/Integer"), (0, u "valueOf"), (0, u "(I)Ljava/lang/Integer;"), (0, .integer 2147483647), (0, .methodref 7 21), (0, .nameAndType 22 23), (0, u "set"), (0, u "(ILjava/lang/Object;Lcom/example/loopsmith/loopsmith/queue/Message$Target;JJB)V"), (0, .methodref 7 25), (0, .nameAndType 26 6), (0, u "letGo"), (0, .methodref 7 28), (0, .nameAndType 29 30), (0, u "capacity"), (0, u "()I"), (0, .methodref 7 32), (0, .nameAndType 33 34), (0, u "when"), (0, u "(I)J"), (0, .methodref 7 36), (0, .nameAndType 37 38), (0, u "item"), (0, u "(I)Ljava/lang/Object;"), (0, .class_ 40), (0, u "com/example/loopsmith/loopsmith/queue/SlotsLetGoPinLaw"), (2, u "law"), (0, u "(IIJ)Z")] 9

def k1m0 : Method := { name := "<init>", desc := "()V", sig := { parameters := [], returnType := none }, accessFlags := 1, code := none }
def k1c1 : Code := { maxStack := 9, maxLocals := 10, code := code, exceptionTable := #[], attributes := #[] }
def k1m1 : Method := { name := "law", desc := "(IIJ)Z", sig := { parameters := [.int, .int, .long], returnType := some .boolean }, accessFlags := 9, code := some k1c1 }
/-- com/example/loopsmith/loopsmith/queue/SlotsLetGoPinLaw -/
def k1 : Class := { plain "com/example/loopsmith/loopsmith/queue/SlotsLetGoPinLaw" (some 0) with
  accessFlags := 49
  interfaces := #[]
  cf := some (fileOf pool1 39 #[] #[{ accessFlags := 1, nameIndex := 5, descriptorIndex := 6, attributes := #[] }, { accessFlags := 9, nameIndex := 43, descriptorIndex := 44, attributes := #[] }] 49 2 #[] #[])
  fields := #[]
  methods := #[k1m0, k1m1]
  instanceTypes := #[]
  staticTypes := #[]
  resolved := Array.replicate 54 none
  statics := none }

def pool2 : Array CpInfo := pool [(1, .class_ 2), (0, u "com/example/loopsmith/loopsmith/queue/Slots"), (0, .methodref 4 5), (0, .class_ 6), (0, .nameAndType 7 8), (0, u "java/lang/Object"), (0, u "<init>"), (0, u "()V"), (0, .class_ 10), (0, u "[Ljava/lang/Object;"), (0, .fieldref 1 12), (0, .nameAndType 13 14), (0, u "items"), (0, u "[[Ljava/lang/Object;"), (0, .class_ 16), (0, u "[J"), (0, .fieldref 1 18), (0, .nameAndType 19 20), (0, u "times"), (0, u "[[J"), (0, .class_ 22), (0, u "[B"), (0, .fieldref 1 24), (0, .nameAndType 25 26), (0, u "flags"), (0, u "[[B"), (0, .fieldref 1 28), (0, .nameAndType 29 30), (0, u "capacity"), (0, u "I"), (0, .integer 536870912), (7, .methodref 1 40), (0, .nameAndType 41 8), (0, u "growFirstBlock"), (3, .fieldref 1 46), (0, .nameAndType 47 30), (0, u "blocks"), (0, .fieldref 1 49), (0, .nameAndType 50 30), (0, u "BLOCK_BITS"), (4, u "item"), (0, u "(I)Ljava/lang/Object;"), (6, u "when"), (0, u "(I)J"), (8, u "set"), (0, u "(ILjava/lang/Object;Lcom/example/loopsmith/loopsmith/queue/Message$Target;JJB)V"), (4, .methodref 1 80), (0, .nameAndType 81 82), (0, u "grownCapacity"), (0, u "()I"), (0, .methodref 84 85), (0, .class_ 86), (0, .nameAndType 87 88), (0, u "java/util/Arrays"), (0, u "copyOf"), (0, u "([Ljava/lang/Object;I)[Ljava/lang/Object;"), (0, .methodref 84 90), (0, .nameAndType 87 91), (0, u "([JI)[J"), (0, .methodref 84 93), (0, .nameAndType 87 94), (0, u "([BI)[B"), (9, u "BLOCK_SLOTS"), (2, u "MAX_SLOTS"), (0, u "INITIAL_SLOTS"), (1, u "BLOCK_MASK"), (4, u "grow"), (0, u "letGo")] 10

def k2c0 : Code := { maxStack := 2, maxLocals := 1, code := prog_42_method_1_code, exceptionTable := #[], attributes := #[] }
def k2m0 : Method := { name := "<init>", desc := "()V", sig := { parameters := [], returnType := none }, accessFlags := 0, code := some k2c0 }
def k2c1 : Code := { maxStack := 1, maxLocals := 1, code := prog_42_method_2_code, exceptionTable := #[], attributes := #[] }
def k2m1 : Method := { name := "capacity", desc := "()I", sig := { parameters := [], returnType := some .int }, accessFlags := 0, code := some k2c1 }
def k2c2 : Code := { maxStack := 2, maxLocals := 2, code := prog_42_method_3_code, exceptionTable := #[], attributes := #[] }
def k2m2 : Method := { name := "grownCapacity", desc := "()I", sig := { parameters := [], returnType := some .int }, accessFlags := 0, code := some k2c2 }
def k2c3 : Code := { maxStack := 3, maxLocals := 1, code := prog_42_method_4_code, exceptionTable := #[], attributes := #[] }
def k2m3 : Method := { name := "grow", desc := "()V", sig := { parameters := [], returnType := none }, accessFlags := 0, code := some k2c3 }
def k2c4 : Code := { maxStack := 2, maxLocals := 1, code := prog_42_method_5_code, exceptionTable := #[], attributes := #[] }
def k2m4 : Method := { name := "letGo", desc := "()V", sig := { parameters := [], returnType := none }, accessFlags := 0, code := some k2c4 }
def k2c5 : Code := { maxStack := 4, maxLocals := 2, code := prog_42_method_6_code, exceptionTable := #[], attributes := #[] }
def k2m5 : Method := { name := "item", desc := "(I)Ljava/lang/Object;", sig := { parameters := [.int], returnType := some (.object "java/lang/Object") }, accessFlags := 0, code := some k2c5 }
def k2c6 : Code := { maxStack := 4, maxLocals := 2, code := prog_42_method_8_code, exceptionTable := #[], attributes := #[] }
def k2m6 : Method := { name := "when", desc := "(I)J", sig := { parameters := [.int], returnType := some .long }, accessFlags := 0, code := some k2c6 }
def k2c7 : Code := { maxStack := 4, maxLocals := 13, code := prog_42_method_11_code, exceptionTable := #[], attributes := #[] }
def k2m7 : Method := { name := "set", desc := "(ILjava/lang/Object;Lcom/example/loopsmith/loopsmith/queue/Message$Target;JJB)V", sig := { parameters := [.int, (.object "java/lang/Object"), (.object "com/example/loopsmith/loopsmith/queue/Message$Target"), .long, .long, .byte], returnType := none }, accessFlags := 0, code := some k2c7 }
def k2c8 : Code := { maxStack := 3, maxLocals := 8, code := prog_42_method_15_code, exceptionTable := #[], attributes := #[] }
def k2m8 : Method := { name := "growFirstBlock", desc := "()V", sig := { parameters := [], returnType := none }, accessFlags := 2, code := some k2c8 }
/-- com/example/loopsmith/loopsmith/queue/Slots -/
def k2 : Class := { plain "com/example/loopsmith/loopsmith/queue/Slots" (some 0) with
  accessFlags := 48
  interfaces := #[]
  cf := some (fileOf pool2 1 #[] #[{ accessFlags := 0, nameIndex := 7, descriptorIndex := 8, attributes := #[] }, { accessFlags := 0, nameIndex := 29, descriptorIndex := 82, attributes := #[] }, { accessFlags := 0, nameIndex := 81, descriptorIndex := 82, attributes := #[] }, { accessFlags := 0, nameIndex := 115, descriptorIndex := 8, attributes := #[] }, { accessFlags := 0, nameIndex := 116, descriptorIndex := 8, attributes := #[] }, { accessFlags := 0, nameIndex := 55, descriptorIndex := 56, attributes := #[] }, { accessFlags := 0, nameIndex := 63, descriptorIndex := 64, attributes := #[] }, { accessFlags := 0, nameIndex := 73, descriptorIndex := 74, attributes := #[] }, { accessFlags := 2, nameIndex := 41, descriptorIndex := 8, attributes := #[] }] 48 4 #[] #[{ accessFlags := 24, nameIndex := 104, descriptorIndex := 30, attributes := #[] }, { accessFlags := 24, nameIndex := 107, descriptorIndex := 30, attributes := #[] }, { accessFlags := 26, nameIndex := 108, descriptorIndex := 30, attributes := #[] }, { accessFlags := 26, nameIndex := 50, descriptorIndex := 30, attributes := #[] }, { accessFlags := 26, nameIndex := 110, descriptorIndex := 30, attributes := #[] }, { accessFlags := 2, nameIndex := 13, descriptorIndex := 14, attributes := #[] }, { accessFlags := 2, nameIndex := 19, descriptorIndex := 20, attributes := #[] }, { accessFlags := 2, nameIndex := 25, descriptorIndex := 26, attributes := #[] }, { accessFlags := 2, nameIndex := 47, descriptorIndex := 30, attributes := #[] }, { accessFlags := 2, nameIndex := 29, descriptorIndex := 30, attributes := #[] }])
  fields := #[{ name := "BLOCK_SLOTS", type := .int, accessFlags := 24, slot := 0, constantValue := 0 }, { name := "MAX_SLOTS", type := .int, accessFlags := 24, slot := 1, constantValue := 0 }, { name := "INITIAL_SLOTS", type := .int, accessFlags := 26, slot := 2, constantValue := 0 }, { name := "BLOCK_BITS", type := .int, accessFlags := 26, slot := 3, constantValue := 0 }, { name := "BLOCK_MASK", type := .int, accessFlags := 26, slot := 4, constantValue := 0 }, { name := "items", type := (.array (.array (.object "java/lang/Object"))), accessFlags := 2, slot := 0, constantValue := 0 }, { name := "times", type := (.array (.array .long)), accessFlags := 2, slot := 1, constantValue := 0 }, { name := "flags", type := (.array (.array .byte)), accessFlags := 2, slot := 2, constantValue := 0 }, { name := "blocks", type := .int, accessFlags := 2, slot := 3, constantValue := 0 }, { name := "capacity", type := .int, accessFlags := 2, slot := 4, constantValue := 0 }]
  methods := #[k2m0, k2m1, k2m2, k2m3, k2m4, k2m5, k2m6, k2m7, k2m8]
  instanceTypes := #[(.array (.array (.object "java/lang/Object"))), (.array (.array .long)), (.array (.array .byte)), .int, .int]
  staticTypes := #[.int, .int, .int, .int, .int]
  resolved := Array.replicate 127 none
  statics := some 0 }

def pool3 : Array CpInfo := pool [(1, .class_ 2), (0, u "java/io/Serializable"), (0, .class_ 4), (0, u "java/lang/Object")] 2

/-- java/io/Serializable -/
def k3 : Class := { plain "java/io/Serializable" (some 0) with
  accessFlags := 1537
  interfaces := #[]
  cf := some (fileOf pool3 1 #[] #[] 1537 3 #[] #[])
  fields := #[]
  methods := #[]
  instanceTypes := #[]
  staticTypes := #[]
  resolved := Array.replicate 7 none
  statics := none }

def pool4 : Array CpInfo := pool [(1, .methodref 2 3), (0, .class_ 4), (0, .nameAndType 5 6), (0, u "java/lang/Object"), (0, u "<init>"), (0, u "()V"), (1, .class_ 10), (1, u "java/lang/Number"), (2, .class_ 14), (0, u "java/io/Serializable"), (0, u "serialVersionUID"), (0, u "J")] 20

def k4c0 : Code := { maxStack := 1, maxLocals := 1, code := jdk_18_method_1_code, exceptionTable := #[], attributes := #[] }
def k4m0 : Method := { name := "<init>", desc := "()V", sig := { parameters := [], returnType := none }, accessFlags := 1, code := some k4c0 }
/-- java/lang/Number -/
def k4 : Class := { plain "java/lang/Number" (some 0) with
  accessFlags := 1057
  interfaces := #[3]
  cf := some (fileOf pool4 8 #[] #[{ accessFlags := 1, nameIndex := 5, descriptorIndex := 6, attributes := #[] }] 1057 2 #[13] #[{ accessFlags := 26, nameIndex := 15, descriptorIndex := 16, attributes := #[] }])
  fields := #[{ name := "serialVersionUID", type := .long, accessFlags := 26, slot := 0, constantValue := 0 }]
  methods := #[k4m0]
  instanceTypes := #[]
  staticTypes := #[.long]
  resolved := Array.replicate 37 none
  statics := none }

def pool5 : Array CpInfo := pool [(1, .class_ 2), (0, u "java/lang/Comparable"), (0, .class_ 4), (0, u "java/lang/Object")] 7

/-- java/lang/Comparable -/
def k5 : Class := { plain "java/lang/Comparable" (some 0) with
  accessFlags := 1537
  interfaces := #[]
  cf := some (fileOf pool5 1 #[] #[] 1537 3 #[] #[])
  fields := #[]
  methods := #[]
  instanceTypes := #[]
  staticTypes := #[]
  resolved := Array.replicate 12 none
  statics := none }

def pool6 : Array CpInfo := pool [(1, .class_ 2), (0, u "java/lang/constant/Constable"), (0, .class_ 4), (0, u "java/lang/Object")] 6

/-- java/lang/constant/Constable -/
def k6 : Class := { plain "java/lang/constant/Constable" (some 0) with
  accessFlags := 1537
  interfaces := #[]
  cf := some (fileOf pool6 1 #[] #[] 1537 3 #[] #[])
  fields := #[]
  methods := #[]
  instanceTypes := #[]
  staticTypes := #[]
  resolved := Array.replicate 11 none
  statics := none }

def pool7 : Array CpInfo := pool [(1, .class_ 2), (0, u "java/lang/constant/ConstantDesc"), (0, .class_ 4), (0, u "java/lang/Object")] 32

/-- java/lang/constant/ConstantDesc -/
def k7 : Class := { plain "java/lang/constant/ConstantDesc" (some 0) with
  accessFlags := 1537
  interfaces := #[]
  cf := some (fileOf pool7 1 #[] #[] 1537 3 #[] #[])
  fields := #[]
  methods := #[]
  instanceTypes := #[]
  staticTypes := #[]
  resolved := Array.replicate 37 none
  statics := none }

def pool8 : Array CpInfo := pool [(1, .class_ 2), (0, u "java/lang/Integer"), (16, u "digits"), (0, u "[C"), (46, u "<init>"), (17, u "DigitOnes"), (0, u "[B"), (2, u "DigitTens"), (10, .nameAndType 67 101), (0, u "()V"), (85, u "valueOf"), (0, u "(I)Ljava/lang/Integer;"), (0, .class_ 190), (0, u "java/lang/Integer$IntegerCache"), (0, .fieldref 189 192), (0, .nameAndType 193 194), (0, u "high"), (0, u "I"), (0, .fieldref 189 196), (0, .nameAndType 197 198), (0, u "cache"), (0, u "[Ljava/lang/Integer;"), (0, .methodref 1 200), (0, .nameAndType 67 201), (0, u "(I)V"), (0, .methodref 203 100), (0, .class_ 204), (0, u "java/lang/Number"), (0, .fieldref 1 206), (0, .nameAndType 207 194), (0, u "value"), (94, u "TYPE"), (0, u "Ljava/lang/Class;"), (0, .class_ 305), (0, u "java/lang/Comparable"), (0, .class_ 307), (0, u "java/lang/constant/Constable"), (0, .class_ 309), (0, u "java/lang/constant/ConstantDesc"), (0, u "MIN_VALUE"), (1, u "MAX_VALUE"), (3, u "SIZE"), (1, u "BYTES"), (1, u "serialVersionUID"), (0, u "J")] 131

def k8c0 : Code := { maxStack := 3, maxLocals := 1, code := jdk_33_method_22_code, exceptionTable := #[], attributes := #[] }
def k8m0 : Method := { name := "valueOf", desc := "(I)Ljava/lang/Integer;", sig := { parameters := [.int], returnType := some (.object "java/lang/Integer") }, accessFlags := 9, code := some k8c0 }
def k8c1 : Code := { maxStack := 2, maxLocals := 2, code := jdk_33_method_23_code, exceptionTable := #[], attributes := #[] }
def k8m1 : Method := { name := "<init>", desc := "(I)V", sig := { parameters := [.int], returnType := none }, accessFlags := 1, code := some k8c1 }
/-- java/lang/Integer -/
def k8 : Class := { plain "java/lang/Integer" (some 4) with
  accessFlags := 49
  interfaces := #[5, 6, 7]
  cf := some (fileOf pool8 1 #[.nestMembers #[189]] #[{ accessFlags := 9, nameIndex := 187, descriptorIndex := 188, attributes := #[] }, { accessFlags := 1, nameIndex := 67, descriptorIndex := 201, attributes := #[] }] 49 203 #[304, 306, 308] #[{ accessFlags := 25, nameIndex := 310, descriptorIndex := 194, attributes := #[] }, { accessFlags := 25, nameIndex := 312, descriptorIndex := 194, attributes := #[] }, { accessFlags := 25, nameIndex := 302, descriptorIndex := 303, attributes := #[] }, { accessFlags := 24, nameIndex := 19, descriptorIndex := 20, attributes := #[] }, { accessFlags := 24, nameIndex := 89, descriptorIndex := 86, attributes := #[] }, { accessFlags := 24, nameIndex := 85, descriptorIndex := 86, attributes := #[] }, { accessFlags := 18, nameIndex := 207, descriptorIndex := 194, attributes := #[] }, { accessFlags := 25, nameIndex := 316, descriptorIndex := 194, attributes := #[] }, { accessFlags := 25, nameIndex := 318, descriptorIndex := 194, attributes := #[] }, { accessFlags := 26, nameIndex := 320, descriptorIndex := 321, attributes := #[] }])
  fields := #[{ name := "MIN_VALUE", type := .int, accessFlags := 25, slot := 0, constantValue := 0 }, { name := "MAX_VALUE", type := .int, accessFlags := 25, slot := 1, constantValue := 0 }, { name := "TYPE", type := (.object "java/lang/Class"), accessFlags := 25, slot := 2, constantValue := 0 }, { name := "digits", type := (.array .char), accessFlags := 24, slot := 3, constantValue := 0 }, { name := "DigitTens", type := (.array .byte), accessFlags := 24, slot := 4, constantValue := 0 }, { name := "DigitOnes", type := (.array .byte), accessFlags := 24, slot := 5, constantValue := 0 }, { name := "value", type := .int, accessFlags := 18, slot := 0, constantValue := 0 }, { name := "SIZE", type := .int, accessFlags := 25, slot := 6, constantValue := 0 }, { name := "BYTES", type := .int, accessFlags := 25, slot := 7, constantValue := 0 }, { name := "serialVersionUID", type := .long, accessFlags := 26, slot := 8, constantValue := 0 }]
  methods := #[k8m0, k8m1]
  instanceTypes := #[.int]
  staticTypes := #[.int, .int, (.object "java/lang/Class"), (.array .char), (.array .byte), (.array .byte), .int, .int, .long]
  resolved := Array.replicate 453 none
  statics := none }

def pool9 : Array CpInfo := pool [(2, .class_ 4), (1, u "java/lang/Object"), (0, u "<init>"), (0, u "()V"), (0, .class_ 8), (0, u "java/lang/Integer"), (7, .class_ 18), (1, u "java/lang/Integer$IntegerCache"), (0, u "$assertionsDisabled"), (0, u "Z"), (26, u "high"), (0, u "I"), (8, u "archivedCache"), (0, u "[Ljava/lang/Integer;"), (12, u "cache"), (0, u "low")] 27

def k9m0 : Method := { name := "<init>", desc := "()V", sig := { parameters := [], returnType := none }, accessFlags := 2, code := none }
/-- java/lang/Integer$IntegerCache -/
def k9 : Class := { plain "java/lang/Integer$IntegerCache" (some 0) with
  accessFlags := 48
  interfaces := #[]
  cf := some (fileOf pool9 16 #[.nestHost 7] #[{ accessFlags := 2, nameIndex := 5, descriptorIndex := 6, attributes := #[] }] 48 2 #[] #[{ accessFlags := 24, nameIndex := 72, descriptorIndex := 48, attributes := #[] }, { accessFlags := 24, nameIndex := 47, descriptorIndex := 48, attributes := #[] }, { accessFlags := 24, nameIndex := 71, descriptorIndex := 58, attributes := #[] }, { accessFlags := 8, nameIndex := 57, descriptorIndex := 58, attributes := #[] }, { accessFlags := 4120, nameIndex := 19, descriptorIndex := 20, attributes := #[] }])
  fields := #[{ name := "low", type := .int, accessFlags := 24, slot := 0, constantValue := 0 }, { name := "high", type := .int, accessFlags := 24, slot := 1, constantValue := 0 }, { name := "cache", type := (.array (.object "java/lang/Integer")), accessFlags := 24, slot := 2, constantValue := 0 }, { name := "archivedCache", type := (.array (.object "java/lang/Integer")), accessFlags := 8, slot := 3, constantValue := 0 }, { name := "$assertionsDisabled", type := .boolean, accessFlags := 4120, slot := 4, constantValue := 0 }]
  methods := #[k9m0]
  instanceTypes := #[]
  staticTypes := #[.int, .int, (.array (.object "java/lang/Integer")), (.array (.object "java/lang/Integer")), .boolean]
  resolved := Array.replicate 100 none
  statics := some 1 }

def pool10 : Array CpInfo := pool [(2, .class_ 4), (1, u "java/lang/Object"), (0, u "<init>"), (0, u "()V"), (7, .class_ 16), (1, u "java/util/Arrays"), (57, .class_ 76), (1, u "java/util/Arrays$NaturalOrder"), (9, .methodref 2 87), (0, .nameAndType 88 89), (0, u "getClass"), (0, u "()Ljava/lang/Class;"), (20, .class_ 111), (0, u "[Ljava/lang/Object;"), (1, .class_ 115), (1, u "java/util/Arrays$LegacyMergeSort"), (1, u "Z"), (32, .methodref 151 152), (0, .class_ 153), (0, .nameAndType 154 155), (0, u "java/lang/System"), (0, u "arraycopy"), (0, u "(Ljava/lang/Object;ILjava/lang/Object;II)V"), (144, .methodref 14 301), (0, .nameAndType 302 303), (0, u "copyOf"), (0, u "([Ljava/lang/Object;ILjava/lang/Class;)[Ljava/lang/Object;"), (0, .methodref 305 306), (0, .class_ 307), (0, .nameAndType 308 309), (0, u "java/lang/Math"), (0, u "min"), (0, u "(II)I"), (65, .class_ 376), (0, u "java/util/Arrays$ArrayList"), (68, u "$assertionsDisabled"), (269, u "MIN_ARRAY_SORT_GRAN"), (0, u "I"), (2, u "INSERTIONSORT_THRESHOLD"), (140, u "([Ljava/lang/Object;I)[Ljava/lang/Object;"), (8, u "([BI)[B"), (2, u "([JI)[J"), (102, .class_ 976), (0, u "java/util/Arrays$ArrayItr")] 52

def k10m0 : Method := { name := "<init>", desc := "()V", sig := { parameters := [], returnType := none }, accessFlags := 2, code := none }
def k10c1 : Code := { maxStack := 3, maxLocals := 2, code := jdk_65_method_119_code, exceptionTable := #[], attributes := #[] }
def k10m1 : Method := { name := "copyOf", desc := "([Ljava/lang/Object;I)[Ljava/lang/Object;", sig := { parameters := [(.array (.object "java/lang/Object")), .int], returnType := some (.array (.object "java/lang/Object")) }, accessFlags := 9, code := some k10c1 }
def k10c2 : Code := { maxStack := 6, maxLocals := 4, code := jdk_65_method_120_code, exceptionTable := #[], attributes := #[] }
def k10m2 : Method := { name := "copyOf", desc := "([Ljava/lang/Object;ILjava/lang/Class;)[Ljava/lang/Object;", sig := { parameters := [(.array (.object "java/lang/Object")), .int, (.object "java/lang/Class")], returnType := some (.array (.object "java/lang/Object")) }, accessFlags := 9, code := some k10c2 }
def k10c3 : Code := { maxStack := 6, maxLocals := 3, code := jdk_65_method_121_code, exceptionTable := #[], attributes := #[] }
def k10m3 : Method := { name := "copyOf", desc := "([BI)[B", sig := { parameters := [(.array .byte), .int], returnType := some (.array .byte) }, accessFlags := 9, code := some k10c3 }
def k10c4 : Code := { maxStack := 6, maxLocals := 3, code := jdk_65_method_124_code, exceptionTable := #[], attributes := #[] }
def k10m4 : Method := { name := "copyOf", desc := "([JI)[J", sig := { parameters := [(.array .long), .int], returnType := some (.array .long) }, accessFlags := 9, code := some k10c4 }
/-- java/util/Arrays -/
def k10 : Class := { plain "java/util/Arrays" (some 0) with
  accessFlags := 49
  interfaces := #[]
  cf := some (fileOf pool10 14 #[.nestMembers #[975, 375, 113, 74]] #[{ accessFlags := 2, nameIndex := 5, descriptorIndex := 6, attributes := #[] }, { accessFlags := 9, nameIndex := 302, descriptorIndex := 860, attributes := #[] }, { accessFlags := 9, nameIndex := 302, descriptorIndex := 303, attributes := #[] }, { accessFlags := 9, nameIndex := 302, descriptorIndex := 869, attributes := #[] }, { accessFlags := 9, nameIndex := 302, descriptorIndex := 872, attributes := #[] }] 49 2 #[] #[{ accessFlags := 26, nameIndex := 715, descriptorIndex := 716, attributes := #[] }, { accessFlags := 26, nameIndex := 719, descriptorIndex := 716, attributes := #[] }, { accessFlags := 4120, nameIndex := 445, descriptorIndex := 117, attributes := #[] }])
  fields := #[{ name := "MIN_ARRAY_SORT_GRAN", type := .int, accessFlags := 26, slot := 0, constantValue := 0 }, { name := "INSERTIONSORT_THRESHOLD", type := .int, accessFlags := 26, slot := 1, constantValue := 0 }, { name := "$assertionsDisabled", type := .boolean, accessFlags := 4120, slot := 2, constantValue := 0 }]
  methods := #[k10m0, k10m1, k10m2, k10m3, k10m4]
  instanceTypes := #[]
  staticTypes := #[.int, .int, .boolean]
  resolved := Array.replicate 1029 none
  statics := none }

def pool11 : Array CpInfo := pool [(1, .class_ 2), (0, u "java/lang/Math"), (1, .class_ 6), (1, u "java/lang/Object"), (0, u "<init>"), (0, u "()V"), (89, .class_ 100), (1, u "java/lang/Math$RandomNumberGeneratorHolder"), (71, u "negativeZeroFloatBits"), (0, u "J"), (2, u "negativeZeroDoubleBits"), (24, u "min"), (43, u "$assertionsDisabled"), (0, u "Z"), (88, u "(II)I"), (2, u "twoToTheDoubleScaleDown"), (0, u "D"), (4, u "twoToTheDoubleScaleUp"), (9, u "E"), (3, u "PI"), (2, u "TAU"), (2, u "DEGREES_TO_RADIANS"), (0, u "RADIANS_TO_DEGREES")] 94

def k11m0 : Method := { name := "<init>", desc := "()V", sig := { parameters := [], returnType := none }, accessFlags := 2, code := none }
def k11c1 : Code := { maxStack := 2, maxLocals := 2, code := jdk_29_method_69_code, exceptionTable := #[], attributes := #[] }
def k11m1 : Method := { name := "min", desc := "(II)I", sig := { parameters := [.int, .int], returnType := some .int }, accessFlags := 9, code := some k11c1 }
/-- java/lang/Math -/
def k11 : Class := { plain "java/lang/Math" (some 0) with
  accessFlags := 49
  interfaces := #[]
  cf := some (fileOf pool11 1 #[.nestMembers #[98]] #[{ accessFlags := 2, nameIndex := 7, descriptorIndex := 8, attributes := #[] }, { accessFlags := 9, nameIndex := 201, descriptorIndex := 335, attributes := #[] }] 49 4 #[] #[{ accessFlags := 25, nameIndex := 354, descriptorIndex := 339, attributes := #[] }, { accessFlags := 25, nameIndex := 358, descriptorIndex := 339, attributes := #[] }, { accessFlags := 25, nameIndex := 361, descriptorIndex := 339, attributes := #[] }, { accessFlags := 26, nameIndex := 364, descriptorIndex := 339, attributes := #[] }, { accessFlags := 26, nameIndex := 365, descriptorIndex := 339, attributes := #[] }, { accessFlags := 26, nameIndex := 172, descriptorIndex := 173, attributes := #[] }, { accessFlags := 26, nameIndex := 176, descriptorIndex := 173, attributes := #[] }, { accessFlags := 8, nameIndex := 344, descriptorIndex := 339, attributes := #[] }, { accessFlags := 8, nameIndex := 338, descriptorIndex := 339, attributes := #[] }, { accessFlags := 4120, nameIndex := 245, descriptorIndex := 246, attributes := #[] }])
  fields := #[{ name := "E", type := .double, accessFlags := 25, slot := 0, constantValue := 0 }, { name := "PI", type := .double, accessFlags := 25, slot := 1, constantValue := 0 }, { name := "TAU", type := .double, accessFlags := 25, slot := 2, constantValue := 0 }, { name := "DEGREES_TO_RADIANS", type := .double, accessFlags := 26, slot := 3, constantValue := 0 }, { name := "RADIANS_TO_DEGREES", type := .double, accessFlags := 26, slot := 4, constantValue := 0 }, { name := "negativeZeroFloatBits", type := .long, accessFlags := 26, slot := 5, constantValue := 0 }, { name := "negativeZeroDoubleBits", type := .long, accessFlags := 26, slot := 6, constantValue := 0 }, { name := "twoToTheDoubleScaleUp", type := .double, accessFlags := 8, slot := 7, constantValue := 0 }, { name := "twoToTheDoubleScaleDown", type := .double, accessFlags := 8, slot := 8, constantValue := 0 }, { name := "$assertionsDisabled", type := .boolean, accessFlags := 4120, slot := 9, constantValue := 0 }]
  methods := #[k11m0, k11m1]
  instanceTypes := #[]
  staticTypes := #[.double, .double, .double, .double, .double, .long, .long, .double, .double, .boolean]
  resolved := Array.replicate 460 none
  statics := none }

def pool12 : Array CpInfo := pool [(2, .class_ 4), (1, u "java/lang/Object"), (0, u "<init>"), (0, u "()V"), (1, .class_ 10), (1, u "java/lang/System"), (0, u "allowSecurityManager"), (0, u "I"), (16, u "cons"), (0, u "Ljava/io/Console;"), (77, .class_ 110), (1, u "java/lang/System$CallersHolder"), (43, u "initialErrStream"), (0, u "Ljava/io/PrintStream;"), (19, u "security"), (0, u "Ljava/lang/SecurityManager;"), (31, .class_ 209), (0, u "java/lang/System$1"), (7, u "props"), (0, u "Ljava/util/Properties;"), (2, u "lineSeparator"), (0, u "Ljava/lang/String;"), (96, .class_ 321), (1, u "java/lang/System$LoggerFinder"), (5, .class_ 328), (0, u "java/lang/System$Logger"), (67, u "err"), (2, u "out"), (91, u "notSupportedJnuEncoding"), (15, u "in"), (17, u "initialIn"), (0, u "Ljava/io/InputStream;"), (35, u "bootLayer"), (0, u "Ljava/lang/ModuleLayer;"), (99, .class_ 664), (0, u "java/lang/System$2"), (9, u "NEVER"), (2, u "MAYBE"), (49, u "arraycopy"), (0, u "(Ljava/lang/Object;ILjava/lang/Object;II)V"), (72, .class_ 802), (0, u "java/lang/System$Logger$Level")] 31

def k12m0 : Method := { name := "<init>", desc := "()V", sig := { parameters := [], returnType := none }, accessFlags := 2, code := none }
def k12m1 : Method := { name := "arraycopy", desc := "(Ljava/lang/Object;ILjava/lang/Object;II)V", sig := { parameters := [(.object "java/lang/Object"), .int, (.object "java/lang/Object"), .int, .int], returnType := none }, accessFlags := 265, code := none }
/-- java/lang/System -/
def k12 : Class := { plain "java/lang/System" (some 0) with
  accessFlags := 49
  interfaces := #[]
  cf := some (fileOf pool12 8 #[.nestMembers #[319, 327, 801, 108, 663, 208]] #[{ accessFlags := 2, nameIndex := 5, descriptorIndex := 6, attributes := #[] }, { accessFlags := 265, nameIndex := 727, descriptorIndex := 728, attributes := #[] }] 49 2 #[] #[{ accessFlags := 25, nameIndex := 507, descriptorIndex := 526, attributes := #[] }, { accessFlags := 25, nameIndex := 399, descriptorIndex := 155, attributes := #[] }, { accessFlags := 25, nameIndex := 396, descriptorIndex := 155, attributes := #[] }, { accessFlags := 10, nameIndex := 525, descriptorIndex := 526, attributes := #[] }, { accessFlags := 26, nameIndex := 674, descriptorIndex := 12, attributes := #[] }, { accessFlags := 26, nameIndex := 677, descriptorIndex := 12, attributes := #[] }, { accessFlags := 10, nameIndex := 11, descriptorIndex := 12, attributes := #[] }, { accessFlags := 74, nameIndex := 175, descriptorIndex := 176, attributes := #[] }, { accessFlags := 10, nameIndex := 491, descriptorIndex := 222, attributes := #[] }, { accessFlags := 74, nameIndex := 29, descriptorIndex := 30, attributes := #[] }, { accessFlags := 74, nameIndex := 154, descriptorIndex := 155, attributes := #[] }, { accessFlags := 10, nameIndex := 217, descriptorIndex := 218, attributes := #[] }, { accessFlags := 10, nameIndex := 221, descriptorIndex := 222, attributes := #[] }, { accessFlags := 8, nameIndex := 562, descriptorIndex := 563, attributes := #[] }])
  fields := #[{ name := "in", type := (.object "java/io/InputStream"), accessFlags := 25, slot := 0, constantValue := 0 }, { name := "out", type := (.object "java/io/PrintStream"), accessFlags := 25, slot := 1, constantValue := 0 }, { name := "err", type := (.object "java/io/PrintStream"), accessFlags := 25, slot := 2, constantValue := 0 }, { name := "initialIn", type := (.object "java/io/InputStream"), accessFlags := 10, slot := 3, constantValue := 0 }, { name := "NEVER", type := .int, accessFlags := 26, slot := 4, constantValue := 0 }, { name := "MAYBE", type := .int, accessFlags := 26, slot := 5, constantValue := 0 }, { name := "allowSecurityManager", type := .int, accessFlags := 10, slot := 6, constantValue := 0 }, { name := "security", type := (.object "java/lang/SecurityManager"), accessFlags := 74, slot := 7, constantValue := 0 }, { name := "notSupportedJnuEncoding", type := (.object "java/lang/String"), accessFlags := 10, slot := 8, constantValue := 0 }, { name := "cons", type := (.object "java/io/Console"), accessFlags := 74, slot := 9, constantValue := 0 }, { name := "initialErrStream", type := (.object "java/io/PrintStream"), accessFlags := 74, slot := 10, constantValue := 0 }, { name := "props", type := (.object "java/util/Properties"), accessFlags := 10, slot := 11, constantValue := 0 }, { name := "lineSeparator", type := (.object "java/lang/String"), accessFlags := 10, slot := 12, constantValue := 0 }, { name := "bootLayer", type := (.object "java/lang/ModuleLayer"), accessFlags := 8, slot := 13, constantValue := 0 }]
  methods := #[k12m0, k12m1]
  instanceTypes := #[]
  staticTypes := #[(.object "java/io/InputStream"), (.object "java/io/PrintStream"), (.object "java/io/PrintStream"), (.object "java/io/InputStream"), .int, .int, .int, (.object "java/lang/SecurityManager"), (.object "java/lang/String"), (.object "java/io/Console"), (.object "java/io/PrintStream"), (.object "java/util/Properties"), (.object "java/lang/String"), (.object "java/lang/ModuleLayer")]
  resolved := Array.replicate 834 none
  statics := none }

def pool13 : Array CpInfo := pool [(1, u "java/lang/Cloneable"), (0, .class_ 1), (0, u "java/lang/Object"), (0, .class_ 3)] 3

/-- java/lang/Cloneable -/
def k13 : Class := { plain "java/lang/Cloneable" (some 0) with
  accessFlags := 1537
  interfaces := #[]
  cf := some (fileOf pool13 2 #[] #[] 1537 4 #[] #[])
  fields := #[]
  methods := #[]
  instanceTypes := #[]
  staticTypes := #[]
  resolved := Array.replicate 8 none
  statics := none }

/-- the primitive byte -/
def k14 : Class := { plain "byte" none with kind := .primitive 'B', accessFlags := 0x411 }
/-- [B -/
def k15 : Class := { plain "[B" (some 0) with kind := .array 14 .byte, interfaces := #[13, 3], accessFlags := 1041 }

/-- the primitive int -/
def k16 : Class := { plain "int" none with kind := .primitive 'I', accessFlags := 0x411 }
/-- [I -/
def k17 : Class := { plain "[I" (some 0) with kind := .array 16 .int, interfaces := #[13, 3], accessFlags := 1041 }

/-- the primitive long -/
def k18 : Class := { plain "long" none with kind := .primitive 'J', accessFlags := 0x411 }
/-- [J -/
def k19 : Class := { plain "[J" (some 0) with kind := .array 18 .long, interfaces := #[13, 3], accessFlags := 1041 }

/-- [Ljava/lang/Integer; -/
def k20 : Class := { plain "[Ljava/lang/Integer;" (some 0) with kind := .array 8 (.object "java/lang/Integer"), interfaces := #[13, 3], accessFlags := 1041 }

/-- [Ljava/lang/Object; -/
def k21 : Class := { plain "[Ljava/lang/Object;" (some 0) with kind := .array 0 (.object "java/lang/Object"), interfaces := #[13, 3], accessFlags := 1041, mirror := some 2 }

def k22 : Class := { plain "[[Ljava/lang/Object;" (some 0) with kind := .array 21 (.array (.object "java/lang/Object")), interfaces := #[13, 3], accessFlags := 1041 }
def k23 : Class := { plain "[[J" (some 0) with kind := .array 19 (.array .long), interfaces := #[13, 3], accessFlags := 1041 }
def k24 : Class := { plain "[[B" (some 0) with kind := .array 15 (.array .byte), interfaces := #[13, 3], accessFlags := 1041 }

def heap : Heap := #[{ cls := 2, slots := #[.int 0, .int 0, .int 0, .int 10, .int 0], vm := .statics 2 },
  { cls := 9, slots := #[.int 0, .int 127, .ref 3, .null, .int 0], vm := .statics 9 },
  { cls := 0, slots := #[], vm := .mirror 21 },
  { cls := 20, slots := #[.ref 4, .ref 5, .ref 6, .ref 7, .ref 8, .ref 9, .ref 10, .ref 11, .ref 12, .ref 13, .ref 14, .ref 15, .ref 16, .ref 17, .ref 18, .ref 19, .ref 20, .ref 21, .ref 22, .ref 23, .ref 24, .ref 25, .ref 26, .ref 27, .ref 28, .ref 29, .ref 30, .ref 31, .ref 32, .ref 33, .ref 34, .ref 35, .ref 36, .ref 37, .ref 38, .ref 39, .ref 40, .ref 41, .ref 42, .ref 43, .ref 44, .ref 45, .ref 46, .ref 47, .ref 48, .ref 49, .ref 50, .ref 51, .ref 52, .ref 53, .ref 54, .ref 55, .ref 56, .ref 57, .ref 58, .ref 59, .ref 60, .ref 61, .ref 62, .ref 63, .ref 64, .ref 65, .ref 66, .ref 67, .ref 68, .ref 69, .ref 70, .ref 71, .ref 72, .ref 73, .ref 74, .ref 75, .ref 76, .ref 77, .ref 78, .ref 79, .ref 80, .ref 81, .ref 82, .ref 83, .ref 84, .ref 85, .ref 86, .ref 87, .ref 88, .ref 89, .ref 90, .ref 91, .ref 92, .ref 93, .ref 94, .ref 95, .ref 96, .ref 97, .ref 98, .ref 99, .ref 100, .ref 101, .ref 102, .ref 103, .ref 104, .ref 105, .ref 106, .ref 107, .ref 108, .ref 109, .ref 110, .ref 111, .ref 112, .ref 113, .ref 114, .ref 115, .ref 116, .ref 117, .ref 118, .ref 119, .ref 120, .ref 121, .ref 122, .ref 123, .ref 124, .ref 125, .ref 126, .ref 127, .ref 128, .ref 129, .ref 130, .ref 131, .ref 132, .ref 133, .ref 134, .ref 135, .ref 136, .ref 137, .ref 138, .ref 139, .ref 140, .ref 141, .ref 142, .ref 143, .ref 144, .ref 145, .ref 146, .ref 147, .ref 148, .ref 149, .ref 150, .ref 151, .ref 152, .ref 153, .ref 154, .ref 155, .ref 156, .ref 157, .ref 158, .ref 159, .ref 160, .ref 161, .ref 162, .ref 163, .ref 164, .ref 165, .ref 166, .ref 167, .ref 168, .ref 169, .ref 170, .ref 171, .ref 172, .ref 173, .ref 174, .ref 175, .ref 176, .ref 177, .ref 178, .ref 179, .ref 180, .ref 181, .ref 182, .ref 183, .ref 184, .ref 185, .ref 186, .ref 187, .ref 188, .ref 189, .ref 190, .ref 191, .ref 192, .ref 193, .ref 194, .ref 195, .ref 196, .ref 197, .ref 198, .ref 199, .ref 200, .ref 201, .ref 202, .ref 203, .ref 204, .ref 205, .ref 206, .ref 207, .ref 208, .ref 209, .ref 210, .ref 211, .ref 212, .ref 213, .ref 214, .ref 215, .ref 216, .ref 217, .ref 218, .ref 219, .ref 220, .ref 221, .ref 222, .ref 223, .ref 224, .ref 225, .ref 226, .ref 227, .ref 228, .ref 229, .ref 230, .ref 231, .ref 232, .ref 233, .ref 234, .ref 235, .ref 236, .ref 237, .ref 238, .ref 239, .ref 240, .ref 241, .ref 242, .ref 243, .ref 244, .ref 245, .ref 246, .ref 247, .ref 248, .ref 249, .ref 250, .ref 251, .ref 252, .ref 253, .ref 254, .ref 255, .ref 256, .ref 257, .ref 258, .ref 259], vm := .none },
  { cls := 8, slots := #[.int (-128)], vm := .none },
  { cls := 8, slots := #[.int (-127)], vm := .none },
  { cls := 8, slots := #[.int (-126)], vm := .none },
  { cls := 8, slots := #[.int (-125)], vm := .none },
  { cls := 8, slots := #[.int (-124)], vm := .none },
  { cls := 8, slots := #[.int (-123)], vm := .none },
  { cls := 8, slots := #[.int (-122)], vm := .none },
  { cls := 8, slots := #[.int (-121)], vm := .none },
  { cls := 8, slots := #[.int (-120)], vm := .none },
  { cls := 8, slots := #[.int (-119)], vm := .none },
  { cls := 8, slots := #[.int (-118)], vm := .none },
  { cls := 8, slots := #[.int (-117)], vm := .none },
  { cls := 8, slots := #[.int (-116)], vm := .none },
  { cls := 8, slots := #[.int (-115)], vm := .none },
  { cls := 8, slots := #[.int (-114)], vm := .none },
  { cls := 8, slots := #[.int (-113)], vm := .none },
  { cls := 8, slots := #[.int (-112)], vm := .none },
  { cls := 8, slots := #[.int (-111)], vm := .none },
  { cls := 8, slots := #[.int (-110)], vm := .none },
  { cls := 8, slots := #[.int (-109)], vm := .none },
  { cls := 8, slots := #[.int (-108)], vm := .none },
  { cls := 8, slots := #[.int (-107)], vm := .none },
  { cls := 8, slots := #[.int (-106)], vm := .none },
  { cls := 8, slots := #[.int (-105)], vm := .none },
  { cls := 8, slots := #[.int (-104)], vm := .none },
  { cls := 8, slots := #[.int (-103)], vm := .none },
  { cls := 8, slots := #[.int (-102)], vm := .none },
  { cls := 8, slots := #[.int (-101)], vm := .none },
  { cls := 8, slots := #[.int (-100)], vm := .none },
  { cls := 8, slots := #[.int (-99)], vm := .none },
  { cls := 8, slots := #[.int (-98)], vm := .none },
  { cls := 8, slots := #[.int (-97)], vm := .none },
  { cls := 8, slots := #[.int (-96)], vm := .none },
  { cls := 8, slots := #[.int (-95)], vm := .none },
  { cls := 8, slots := #[.int (-94)], vm := .none },
  { cls := 8, slots := #[.int (-93)], vm := .none },
  { cls := 8, slots := #[.int (-92)], vm := .none },
  { cls := 8, slots := #[.int (-91)], vm := .none },
  { cls := 8, slots := #[.int (-90)], vm := .none },
  { cls := 8, slots := #[.int (-89)], vm := .none },
  { cls := 8, slots := #[.int (-88)], vm := .none },
  { cls := 8, slots := #[.int (-87)], vm := .none },
  { cls := 8, slots := #[.int (-86)], vm := .none },
  { cls := 8, slots := #[.int (-85)], vm := .none },
  { cls := 8, slots := #[.int (-84)], vm := .none },
  { cls := 8, slots := #[.int (-83)], vm := .none },
  { cls := 8, slots := #[.int (-82)], vm := .none },
  { cls := 8, slots := #[.int (-81)], vm := .none },
  { cls := 8, slots := #[.int (-80)], vm := .none },
  { cls := 8, slots := #[.int (-79)], vm := .none },
  { cls := 8, slots := #[.int (-78)], vm := .none },
  { cls := 8, slots := #[.int (-77)], vm := .none },
  { cls := 8, slots := #[.int (-76)], vm := .none },
  { cls := 8, slots := #[.int (-75)], vm := .none },
  { cls := 8, slots := #[.int (-74)], vm := .none },
  { cls := 8, slots := #[.int (-73)], vm := .none },
  { cls := 8, slots := #[.int (-72)], vm := .none },
  { cls := 8, slots := #[.int (-71)], vm := .none },
  { cls := 8, slots := #[.int (-70)], vm := .none },
  { cls := 8, slots := #[.int (-69)], vm := .none },
  { cls := 8, slots := #[.int (-68)], vm := .none },
  { cls := 8, slots := #[.int (-67)], vm := .none },
  { cls := 8, slots := #[.int (-66)], vm := .none },
  { cls := 8, slots := #[.int (-65)], vm := .none },
  { cls := 8, slots := #[.int (-64)], vm := .none },
  { cls := 8, slots := #[.int (-63)], vm := .none },
  { cls := 8, slots := #[.int (-62)], vm := .none },
  { cls := 8, slots := #[.int (-61)], vm := .none },
  { cls := 8, slots := #[.int (-60)], vm := .none },
  { cls := 8, slots := #[.int (-59)], vm := .none },
  { cls := 8, slots := #[.int (-58)], vm := .none },
  { cls := 8, slots := #[.int (-57)], vm := .none },
  { cls := 8, slots := #[.int (-56)], vm := .none },
  { cls := 8, slots := #[.int (-55)], vm := .none },
  { cls := 8, slots := #[.int (-54)], vm := .none },
  { cls := 8, slots := #[.int (-53)], vm := .none },
  { cls := 8, slots := #[.int (-52)], vm := .none },
  { cls := 8, slots := #[.int (-51)], vm := .none },
  { cls := 8, slots := #[.int (-50)], vm := .none },
  { cls := 8, slots := #[.int (-49)], vm := .none },
  { cls := 8, slots := #[.int (-48)], vm := .none },
  { cls := 8, slots := #[.int (-47)], vm := .none },
  { cls := 8, slots := #[.int (-46)], vm := .none },
  { cls := 8, slots := #[.int (-45)], vm := .none },
  { cls := 8, slots := #[.int (-44)], vm := .none },
  { cls := 8, slots := #[.int (-43)], vm := .none },
  { cls := 8, slots := #[.int (-42)], vm := .none },
  { cls := 8, slots := #[.int (-41)], vm := .none },
  { cls := 8, slots := #[.int (-40)], vm := .none },
  { cls := 8, slots := #[.int (-39)], vm := .none },
  { cls := 8, slots := #[.int (-38)], vm := .none },
  { cls := 8, slots := #[.int (-37)], vm := .none },
  { cls := 8, slots := #[.int (-36)], vm := .none },
  { cls := 8, slots := #[.int (-35)], vm := .none },
  { cls := 8, slots := #[.int (-34)], vm := .none },
  { cls := 8, slots := #[.int (-33)], vm := .none },
  { cls := 8, slots := #[.int (-32)], vm := .none },
  { cls := 8, slots := #[.int (-31)], vm := .none },
  { cls := 8, slots := #[.int (-30)], vm := .none },
  { cls := 8, slots := #[.int (-29)], vm := .none },
  { cls := 8, slots := #[.int (-28)], vm := .none },
  { cls := 8, slots := #[.int (-27)], vm := .none },
  { cls := 8, slots := #[.int (-26)], vm := .none },
  { cls := 8, slots := #[.int (-25)], vm := .none },
  { cls := 8, slots := #[.int (-24)], vm := .none },
  { cls := 8, slots := #[.int (-23)], vm := .none },
  { cls := 8, slots := #[.int (-22)], vm := .none },
  { cls := 8, slots := #[.int (-21)], vm := .none },
  { cls := 8, slots := #[.int (-20)], vm := .none },
  { cls := 8, slots := #[.int (-19)], vm := .none },
  { cls := 8, slots := #[.int (-18)], vm := .none },
  { cls := 8, slots := #[.int (-17)], vm := .none },
  { cls := 8, slots := #[.int (-16)], vm := .none },
  { cls := 8, slots := #[.int (-15)], vm := .none },
  { cls := 8, slots := #[.int (-14)], vm := .none },
  { cls := 8, slots := #[.int (-13)], vm := .none },
  { cls := 8, slots := #[.int (-12)], vm := .none },
  { cls := 8, slots := #[.int (-11)], vm := .none },
  { cls := 8, slots := #[.int (-10)], vm := .none },
  { cls := 8, slots := #[.int (-9)], vm := .none },
  { cls := 8, slots := #[.int (-8)], vm := .none },
  { cls := 8, slots := #[.int (-7)], vm := .none },
  { cls := 8, slots := #[.int (-6)], vm := .none },
  { cls := 8, slots := #[.int (-5)], vm := .none },
  { cls := 8, slots := #[.int (-4)], vm := .none },
  { cls := 8, slots := #[.int (-3)], vm := .none },
  { cls := 8, slots := #[.int (-2)], vm := .none },
  { cls := 8, slots := #[.int (-1)], vm := .none },
  { cls := 8, slots := #[.int 0], vm := .none },
  { cls := 8, slots := #[.int 1], vm := .none },
  { cls := 8, slots := #[.int 2], vm := .none },
  { cls := 8, slots := #[.int 3], vm := .none },
  { cls := 8, slots := #[.int 4], vm := .none },
  { cls := 8, slots := #[.int 5], vm := .none },
  { cls := 8, slots := #[.int 6], vm := .none },
  { cls := 8, slots := #[.int 7], vm := .none },
  { cls := 8, slots := #[.int 8], vm := .none },
  { cls := 8, slots := #[.int 9], vm := .none },
  { cls := 8, slots := #[.int 10], vm := .none },
  { cls := 8, slots := #[.int 11], vm := .none },
  { cls := 8, slots := #[.int 12], vm := .none },
  { cls := 8, slots := #[.int 13], vm := .none },
  { cls := 8, slots := #[.int 14], vm := .none },
  { cls := 8, slots := #[.int 15], vm := .none },
  { cls := 8, slots := #[.int 16], vm := .none },
  { cls := 8, slots := #[.int 17], vm := .none },
  { cls := 8, slots := #[.int 18], vm := .none },
  { cls := 8, slots := #[.int 19], vm := .none },
  { cls := 8, slots := #[.int 20], vm := .none },
  { cls := 8, slots := #[.int 21], vm := .none },
  { cls := 8, slots := #[.int 22], vm := .none },
  { cls := 8, slots := #[.int 23], vm := .none },
  { cls := 8, slots := #[.int 24], vm := .none },
  { cls := 8, slots := #[.int 25], vm := .none },
  { cls := 8, slots := #[.int 26], vm := .none },
  { cls := 8, slots := #[.int 27], vm := .none },
  { cls := 8, slots := #[.int 28], vm := .none },
  { cls := 8, slots := #[.int 29], vm := .none },
  { cls := 8, slots := #[.int 30], vm := .none },
  { cls := 8, slots := #[.int 31], vm := .none },
  { cls := 8, slots := #[.int 32], vm := .none },
  { cls := 8, slots := #[.int 33], vm := .none },
  { cls := 8, slots := #[.int 34], vm := .none },
  { cls := 8, slots := #[.int 35], vm := .none },
  { cls := 8, slots := #[.int 36], vm := .none },
  { cls := 8, slots := #[.int 37], vm := .none },
  { cls := 8, slots := #[.int 38], vm := .none },
  { cls := 8, slots := #[.int 39], vm := .none },
  { cls := 8, slots := #[.int 40], vm := .none },
  { cls := 8, slots := #[.int 41], vm := .none },
  { cls := 8, slots := #[.int 42], vm := .none },
  { cls := 8, slots := #[.int 43], vm := .none },
  { cls := 8, slots := #[.int 44], vm := .none },
  { cls := 8, slots := #[.int 45], vm := .none },
  { cls := 8, slots := #[.int 46], vm := .none },
  { cls := 8, slots := #[.int 47], vm := .none },
  { cls := 8, slots := #[.int 48], vm := .none },
  { cls := 8, slots := #[.int 49], vm := .none },
  { cls := 8, slots := #[.int 50], vm := .none },
  { cls := 8, slots := #[.int 51], vm := .none },
  { cls := 8, slots := #[.int 52], vm := .none },
  { cls := 8, slots := #[.int 53], vm := .none },
  { cls := 8, slots := #[.int 54], vm := .none },
  { cls := 8, slots := #[.int 55], vm := .none },
  { cls := 8, slots := #[.int 56], vm := .none },
  { cls := 8, slots := #[.int 57], vm := .none },
  { cls := 8, slots := #[.int 58], vm := .none },
  { cls := 8, slots := #[.int 59], vm := .none },
  { cls := 8, slots := #[.int 60], vm := .none },
  { cls := 8, slots := #[.int 61], vm := .none },
  { cls := 8, slots := #[.int 62], vm := .none },
  { cls := 8, slots := #[.int 63], vm := .none },
  { cls := 8, slots := #[.int 64], vm := .none },
  { cls := 8, slots := #[.int 65], vm := .none },
  { cls := 8, slots := #[.int 66], vm := .none },
  { cls := 8, slots := #[.int 67], vm := .none },
  { cls := 8, slots := #[.int 68], vm := .none },
  { cls := 8, slots := #[.int 69], vm := .none },
  { cls := 8, slots := #[.int 70], vm := .none },
  { cls := 8, slots := #[.int 71], vm := .none },
  { cls := 8, slots := #[.int 72], vm := .none },
  { cls := 8, slots := #[.int 73], vm := .none },
  { cls := 8, slots := #[.int 74], vm := .none },
  { cls := 8, slots := #[.int 75], vm := .none },
  { cls := 8, slots := #[.int 76], vm := .none },
  { cls := 8, slots := #[.int 77], vm := .none },
  { cls := 8, slots := #[.int 78], vm := .none },
  { cls := 8, slots := #[.int 79], vm := .none },
  { cls := 8, slots := #[.int 80], vm := .none },
  { cls := 8, slots := #[.int 81], vm := .none },
  { cls := 8, slots := #[.int 82], vm := .none },
  { cls := 8, slots := #[.int 83], vm := .none },
  { cls := 8, slots := #[.int 84], vm := .none },
  { cls := 8, slots := #[.int 85], vm := .none },
  { cls := 8, slots := #[.int 86], vm := .none },
  { cls := 8, slots := #[.int 87], vm := .none },
  { cls := 8, slots := #[.int 88], vm := .none },
  { cls := 8, slots := #[.int 89], vm := .none },
  { cls := 8, slots := #[.int 90], vm := .none },
  { cls := 8, slots := #[.int 91], vm := .none },
  { cls := 8, slots := #[.int 92], vm := .none },
  { cls := 8, slots := #[.int 93], vm := .none },
  { cls := 8, slots := #[.int 94], vm := .none },
  { cls := 8, slots := #[.int 95], vm := .none },
  { cls := 8, slots := #[.int 96], vm := .none },
  { cls := 8, slots := #[.int 97], vm := .none },
  { cls := 8, slots := #[.int 98], vm := .none },
  { cls := 8, slots := #[.int 99], vm := .none },
  { cls := 8, slots := #[.int 100], vm := .none },
  { cls := 8, slots := #[.int 101], vm := .none },
  { cls := 8, slots := #[.int 102], vm := .none },
  { cls := 8, slots := #[.int 103], vm := .none },
  { cls := 8, slots := #[.int 104], vm := .none },
  { cls := 8, slots := #[.int 105], vm := .none },
  { cls := 8, slots := #[.int 106], vm := .none },
  { cls := 8, slots := #[.int 107], vm := .none },
  { cls := 8, slots := #[.int 108], vm := .none },
  { cls := 8, slots := #[.int 109], vm := .none },
  { cls := 8, slots := #[.int 110], vm := .none },
  { cls := 8, slots := #[.int 111], vm := .none },
  { cls := 8, slots := #[.int 112], vm := .none },
  { cls := 8, slots := #[.int 113], vm := .none },
  { cls := 8, slots := #[.int 114], vm := .none },
  { cls := 8, slots := #[.int 115], vm := .none },
  { cls := 8, slots := #[.int 116], vm := .none },
  { cls := 8, slots := #[.int 117], vm := .none },
  { cls := 8, slots := #[.int 118], vm := .none },
  { cls := 8, slots := #[.int 119], vm := .none },
  { cls := 8, slots := #[.int 120], vm := .none },
  { cls := 8, slots := #[.int 121], vm := .none },
  { cls := 8, slots := #[.int 122], vm := .none },
  { cls := 8, slots := #[.int 123], vm := .none },
  { cls := 8, slots := #[.int 124], vm := .none },
  { cls := 8, slots := #[.int 125], vm := .none },
  { cls := 8, slots := #[.int 126], vm := .none },
  { cls := 8, slots := #[.int 127], vm := .none }]
def classes : Array Class := #[k0, k1, k2, k3, k4, k5, k6, k7, k8, k9, k10, k11, k12, k13, k14, k15, k16, k17, k18, k19, k20, k21, k22, k23, k24]
def interned : List (Array UInt16 × Addr) := []
def slotsUsed : Nat := 522
def theMethod : MethodId := ⟨1, 1⟩
def args0 : Array Value := #[.int 1, .int 6, .long 7]
def aboutOver (below : List Frame) : State where
  vm := { classes := classes, interned := interned.toArray }
  heap := heap
  slotsUsed := slotsUsed
  threads := #[{ frames := .invoking theMethod args0 :: below }]
def below0 : List Frame := [.native { method := ⟨0, 0⟩, args := #[] }]
def about1 : State := aboutOver below0
def p0 : Program := .bare "" "" ""
def e0 : Env := launch0.env 0 0 0
theorem w_frames : about1.frames = Frame.invoking theMethod args0 :: below0 := rfl
set_option maxRecDepth 65536 in
theorem w_args : argsFit about1.vm theMethod args0 = true := by decide +kernel
set_option maxRecDepth 65536 in
theorem w_heap : heapFits about1 = true := by decide +kernel
set_option maxRecDepth 65536 in
theorem w_runnable : about1.curStatus? = some .runnable := by decide +kernel
set_option maxRecDepth 65536 in
theorem w_alone : about1.alone = true := by decide +kernel
set_option maxRecDepth 65536 in
theorem w_named : about1.methodNamed? x = some theMethod := by decide +kernel
set_option maxRecDepth 65536 in
theorem w_hears : about1.hears theMethod below0 = true := by decide +kernel
set_option maxRecDepth 65536 in
theorem w_ripe : about1.ripe theMethod args0 below0 = true := by decide +kernel
theorem w_running : about1.status = .running := rfl
set_option maxRecDepth 65536 in
theorem w_room : about1.hasRoom e0.platform room_1 = true :=
  launch0.hasRoom_least _ room_1 (by decide +kernel) (by decide +kernel) (by decide +kernel) (by decide +kernel) (by decide +kernel) (by decide +kernel)
theorem allAtoms_all (ts : List Jvm.Cond) (a : Array Jvm.Value) (st : Jvm.State) : (allAtoms ts).before a st = ts.all (fun c => c.before a st) := by
  induction ts with
  | nil => rfl
  | cons c t ih =>
    show (Jvm.Cond.and c (allAtoms t)).before a st = _
    rw [Jvm.Cond.before_and, ih, List.all_cons]
def words1 : List Jvm.Cond := Jvm.Cond.code x code maxLocals ret :: tables_1
/-- a 'code' word, met by the world's own term for the bytes: nothing is compared byte by byte -/
theorem code_word {y : MethodName} {bytes : ByteArray} {mx : Nat} {rt : Option FieldType} {a : Array Value} {s : State} {m : MethodId} {meth : Method} {c : Code} (h1 : s.methodNamed? y = some m) (h2 : s.vm.method? m = some meth) (h3 : meth.code = some c) (h4 : c.code = bytes)
    (h5 : (c.maxLocals == mx && c.exceptionTable.isEmpty && decide (c.maxStack ≤ mostOperands) && decide (meth.sig.returnType = rt) && !meth.locks && decide (parseMethodDescriptor y.desc = some meth.sig)) = true) : (Jvm.Cond.code y bytes mx rt).before a s = true := by
  simp only [Bool.and_eq_true, beq_iff_eq, Bool.not_eq_true', decide_eq_true_eq] at h5
  obtain ⟨⟨⟨⟨⟨g1, g2⟩, g3⟩, g4⟩, g5⟩, g6⟩ := h5
  simp [Cond.before, Cond.holds, Cond.value, h1, h2, h3, h4, g1, g2, g3, g4, g5, g6]
def isCode : Jvm.Cond → Bool
  | .code _ _ _ _ => true
  | .arrayOver (.array _) => true
  | _ => false
theorem all_split {L : List Jvm.Cond} {P : Jvm.Cond → Bool} (h1 : L.all (fun c => isCode c || P c) = true) (h2 : ∀ c ∈ L.filter isCode, P c = true) : L.all P = true := by
  refine List.all_eq_true.mpr fun c hc => ?_
  have h := List.all_eq_true.mp h1 c hc
  rcases Bool.eq_false_or_eq_true (isCode c) with hi | hi
  · exact h2 c (List.mem_filter.mpr ⟨hc, hi⟩)
  · simpa [hi] using h
set_option maxRecDepth 65536 in
theorem w_c0 : (Jvm.Cond.code x code maxLocals ret).before args0 about1 = true := code_word (m := ⟨1, 1⟩) (meth := k1m1) (c := k1c1) (by decide +kernel) rfl rfl rfl (by decide +kernel)
set_option maxRecDepth 65536 in
theorem w_c1 : (Jvm.Cond.code ({ cls := "com/example/loopsmith/loopsmith/queue/Slots", name := "<init>", desc := "()V" } : Jvm.MethodName) prog_42_method_1_code (1 : Nat) (Option.none : Option Jvm.ClassFile.FieldType)).before args0 about1 = true := code_word (m := ⟨2, 0⟩) (meth := k2m0) (c := k2c0) (by decide +kernel) rfl rfl rfl (by decide +kernel)
set_option maxRecDepth 65536 in
theorem w_c2 : (Jvm.Cond.code ({ cls := "java/lang/Object", name := "<init>", desc := "()V" } : Jvm.MethodName) object_method_1_code (1 : Nat) (Option.none : Option Jvm.ClassFile.FieldType)).before args0 about1 = true := code_word (m := ⟨0, 0⟩) (meth := k0m0) (c := k0c0) (by decide +kernel) rfl rfl rfl (by decide +kernel)
set_option maxRecDepth 65536 in
theorem w_c3 : (Jvm.Cond.code ({ cls := "java/lang/Integer", name := "valueOf", desc := "(I)Ljava/lang/Integer;" } : Jvm.MethodName) jdk_33_method_22_code (1 : Nat) (Option.some (Jvm.ClassFile.FieldType.object "java/lang/Integer"))).before args0 about1 = true := code_word (m := ⟨8, 0⟩) (meth := k8m0) (c := k8c0) (by decide +kernel) rfl rfl rfl (by decide +kernel)
set_option maxRecDepth 65536 in
theorem w_c4 : (Jvm.Cond.code ({ cls := "com/example/loopsmith/loopsmith/queue/Slots", name := "letGo", desc := "()V" } : Jvm.MethodName) prog_42_method_5_code (1 : Nat) (Option.none : Option Jvm.ClassFile.FieldType)).before args0 about1 = true := code_word (m := ⟨2, 4⟩) (meth := k2m4) (c := k2c4) (by decide +kernel) rfl rfl rfl (by decide +kernel)
set_option maxRecDepth 65536 in
theorem w_c5 : (Jvm.Cond.code ({ cls := "com/example/loopsmith/loopsmith/queue/Slots", name := "capacity", desc := "()I" } : Jvm.MethodName) prog_42_method_2_code (1 : Nat) (Option.some Jvm.ClassFile.FieldType.int)).before args0 about1 = true := code_word (m := ⟨2, 1⟩) (meth := k2m1) (c := k2c1) (by decide +kernel) rfl rfl rfl (by decide +kernel)
set_option maxRecDepth 65536 in
theorem w_c6 : (Jvm.Cond.code ({ cls := "com/example/loopsmith/loopsmith/queue/Slots", name := "grow", desc := "()V" } : Jvm.MethodName) prog_42_method_4_code (1 : Nat) (Option.none : Option Jvm.ClassFile.FieldType)).before args0 about1 = true := code_word (m := ⟨2, 3⟩) (meth := k2m3) (c := k2c3) (by decide +kernel) rfl rfl rfl (by decide +kernel)
set_option maxRecDepth 65536 in
theorem w_c7 : (Jvm.Cond.code ({ cls := "com/example/loopsmith/loopsmith/queue/Slots", name := "growFirstBlock", desc := "()V" } : Jvm.MethodName) prog_42_method_15_code (8 : Nat) (Option.none : Option Jvm.ClassFile.FieldType)).before args0 about1 = true := code_word (m := ⟨2, 8⟩) (meth := k2m8) (c := k2c8) (by decide +kernel) rfl rfl rfl (by decide +kernel)
set_option maxRecDepth 65536 in
theorem w_c8 : (Jvm.Cond.code ({ cls := "com/example/loopsmith/loopsmith/queue/Slots", name := "grownCapacity", desc := "()I" } : Jvm.MethodName) prog_42_method_3_code (2 : Nat) (Option.some Jvm.ClassFile.FieldType.int)).before args0 about1 = true := code_word (m := ⟨2, 2⟩) (meth := k2m2) (c := k2c2) (by decide +kernel) rfl rfl rfl (by decide +kernel)
set_option maxRecDepth 65536 in
theorem w_c9 : (Jvm.Cond.code ({ cls := "java/util/Arrays", name := "copyOf", desc := "([Ljava/lang/Object;I)[Ljava/lang/Object;" } : Jvm.MethodName) jdk_65_method_119_code (2 : Nat) (Option.some (Jvm.ClassFile.FieldType.array (Jvm.ClassFile.FieldType.object "java/lang/Object")))).before args0 about1 = true := code_word (m := ⟨10, 1⟩) (meth := k10m1) (c := k10c1) (by decide +kernel) rfl rfl rfl (by decide +kernel)
set_option maxRecDepth 65536 in
theorem w_c10 : (Jvm.Cond.code ({ cls := "java/util/Arrays", name := "copyOf", desc := "([Ljava/lang/Object;ILjava/lang/Class;)[Ljava/lang/Object;" } : Jvm.MethodName) jdk_65_method_120_code (4 : Nat) (Option.some (Jvm.ClassFile.FieldType.array (Jvm.ClassFile.FieldType.object "java/lang/Object")))).before args0 about1 = true := code_word (m := ⟨10, 2⟩) (meth := k10m2) (c := k10c2) (by decide +kernel) rfl rfl rfl (by decide +kernel)
set_option maxRecDepth 65536 in
theorem w_c11 : (Jvm.Cond.code ({ cls := "java/lang/Math", name := "min", desc := "(II)I" } : Jvm.MethodName) jdk_29_method_69_code (2 : Nat) (Option.some Jvm.ClassFile.FieldType.int)).before args0 about1 = true := code_word (m := ⟨11, 1⟩) (meth := k11m1) (c := k11c1) (by decide +kernel) rfl rfl rfl (by decide +kernel)
set_option maxRecDepth 65536 in
theorem w_c12 : (Jvm.Cond.code ({ cls := "java/util/Arrays", name := "copyOf", desc := "([JI)[J" } : Jvm.MethodName) jdk_65_method_124_code (3 : Nat) (Option.some (Jvm.ClassFile.FieldType.array Jvm.ClassFile.FieldType.long))).before args0 about1 = true := code_word (m := ⟨10, 4⟩) (meth := k10m4) (c := k10c4) (by decide +kernel) rfl rfl rfl (by decide +kernel)
set_option maxRecDepth 65536 in
theorem w_c13 : (Jvm.Cond.code ({ cls := "java/util/Arrays", name := "copyOf", desc := "([BI)[B" } : Jvm.MethodName) jdk_65_method_121_code (3 : Nat) (Option.some (Jvm.ClassFile.FieldType.array Jvm.ClassFile.FieldType.byte))).before args0 about1 = true := code_word (m := ⟨10, 3⟩) (meth := k10m3) (c := k10c3) (by decide +kernel) rfl rfl rfl (by decide +kernel)
set_option maxRecDepth 65536 in
theorem w_c14 : (Jvm.Cond.code ({ cls := "java/lang/Integer", name := "<init>", desc := "(I)V" } : Jvm.MethodName) jdk_33_method_23_code (2 : Nat) (Option.none : Option Jvm.ClassFile.FieldType)).before args0 about1 = true := code_word (m := ⟨8, 1⟩) (meth := k8m1) (c := k8c1) (by decide +kernel) rfl rfl rfl (by decide +kernel)
set_option maxRecDepth 65536 in
theorem w_c15 : (Jvm.Cond.code ({ cls := "java/lang/Number", name := "<init>", desc := "()V" } : Jvm.MethodName) jdk_18_method_1_code (1 : Nat) (Option.none : Option Jvm.ClassFile.FieldType)).before args0 about1 = true := code_word (m := ⟨4, 0⟩) (meth := k4m0) (c := k4c0) (by decide +kernel) rfl rfl rfl (by decide +kernel)
set_option maxRecDepth 65536 in
theorem w_c16 : (Jvm.Cond.code ({ cls := "com/example/loopsmith/loopsmith/queue/Slots", name := "set", desc := "(ILjava/lang/Object;Lcom/example/loopsmith/loopsmith/queue/Message$Target;JJB)V" } : Jvm.MethodName) prog_42_method_11_code (13 : Nat) (Option.none : Option Jvm.ClassFile.FieldType)).before args0 about1 = true := code_word (m := ⟨2, 7⟩) (meth := k2m7) (c := k2c7) (by decide +kernel) rfl rfl rfl (by decide +kernel)
set_option maxRecDepth 65536 in
theorem w_c17 : (Jvm.Cond.code ({ cls := "com/example/loopsmith/loopsmith/queue/Slots", name := "when", desc := "(I)J" } : Jvm.MethodName) prog_42_method_8_code (2 : Nat) (Option.some Jvm.ClassFile.FieldType.long)).before args0 about1 = true := code_word (m := ⟨2, 6⟩) (meth := k2m6) (c := k2c6) (by decide +kernel) rfl rfl rfl (by decide +kernel)
set_option maxRecDepth 65536 in
theorem w_c18 : (Jvm.Cond.code ({ cls := "com/example/loopsmith/loopsmith/queue/Slots", name := "item", desc := "(I)Ljava/lang/Object;" } : Jvm.MethodName) prog_42_method_6_code (2 : Nat) (Option.some (Jvm.ClassFile.FieldType.object "java/lang/Object"))).before args0 about1 = true := code_word (m := ⟨2, 5⟩) (meth := k2m5) (c := k2c5) (by decide +kernel) rfl rfl rfl (by decide +kernel)
theorem own_ao {s : State} {args : Array Value} {t : FieldType} {comp c : ClassId} {k : Class} (h1 : s.vm.findClass (FieldType.array t).toString = some comp) (h2 : (s.vm.classes.findIdx? fun x => match x.kind with | .array component _ => component == comp | _ => false) = some c) (h3 : s.vm.classes[c]? = some k) (h4 : k.kind = .array comp (.array t)) (h5 : s.vm.findClass ("[" ++ (FieldType.array t).toString) = some c) : (Jvm.Cond.arrayOver (.array t)).before args s = true := by
  refine Cond.before_iff.mpr ?_
  simp only [Cond.value, h1, Option.bind_eq_bind, Option.bind_some]
  refine Option.bind_eq_some_iff.mpr ⟨c, h2, ?_⟩
  simp [h3, h4, h5]
set_option maxRecDepth 65536 in
theorem w_ao21 : (Jvm.Cond.arrayOver (Jvm.ClassFile.FieldType.array (Jvm.ClassFile.FieldType.object "java/lang/Object"))).before args0 about1 = true := own_ao (comp := 21) (c := 22) (k := k22) (by decide +kernel) (by decide +kernel) rfl rfl (by decide +kernel)
set_option maxRecDepth 65536 in
theorem w_ao19 : (Jvm.Cond.arrayOver (Jvm.ClassFile.FieldType.array Jvm.ClassFile.FieldType.long)).before args0 about1 = true := own_ao (comp := 19) (c := 23) (k := k23) (by decide +kernel) (by decide +kernel) rfl rfl (by decide +kernel)
set_option maxRecDepth 65536 in
theorem w_ao15 : (Jvm.Cond.arrayOver (Jvm.ClassFile.FieldType.array Jvm.ClassFile.FieldType.byte)).before args0 about1 = true := own_ao (comp := 15) (c := 24) (k := k24) (by decide +kernel) (by decide +kernel) rfl rfl (by decide +kernel)
def codes1 : List Jvm.Cond := [Jvm.Cond.code x code maxLocals ret, Jvm.Cond.code ({ cls := "com/example/loopsmith/loopsmith/queue/Slots", name := "<init>", desc := "()V" } : Jvm.MethodName) prog_42_method_1_code (1 : Nat) (Option.none : Option Jvm.ClassFile.FieldType), Jvm.Cond.code ({ cls := "java/lang/Object", name := "<init>", desc := "()V" } : Jvm.MethodName) object_method_1_code (1 : Nat) (Option.none : Option Jvm.ClassFile.FieldType), (Jvm.Cond.arrayOver (Jvm.ClassFile.FieldType.array (Jvm.ClassFile.FieldType.object "java/lang/Object"))), (Jvm.Cond.arrayOver (Jvm.ClassFile.FieldType.array Jvm.ClassFile.FieldType.long)), (Jvm.Cond.arrayOver (Jvm.ClassFile.FieldType.array Jvm.ClassFile.FieldType.byte)), Jvm.Cond.code ({ cls := "java/lang/Integer", name := "valueOf", desc := "(I)Ljava/lang/Integer;" } : Jvm.MethodName) jdk_33_method_22_code (1 : Nat) (Option.some (Jvm.ClassFile.FieldType.object "java/lang/Integer")), Jvm.Cond.code ({ cls := "com/example/loopsmith/loopsmith/queue/Slots", name := "letGo", desc := "()V" } : Jvm.MethodName) prog_42_method_5_code (1 : Nat) (Option.none : Option Jvm.ClassFile.FieldType), Jvm.Cond.code ({ cls := "com/example/loopsmith/loopsmith/queue/Slots", name := "capacity", desc := "()I" } : Jvm.MethodName) prog_42_method_2_code (1 : Nat) (Option.some Jvm.ClassFile.FieldType.int), Jvm.Cond.code ({ cls := "com/example/loopsmith/loopsmith/queue/Slots", name := "grow", desc := "()V" } : Jvm.MethodName) prog_42_method_4_code (1 : Nat) (Option.none : Option Jvm.ClassFile.FieldType), Jvm.Cond.code ({ cls := "com/example/loopsmith/loopsmith/queue/Slots", name := "growFirstBlock", desc := "()V" } : Jvm.MethodName) prog_42_method_15_code (8 : Nat) (Option.none : Option Jvm.ClassFile.FieldType), Jvm.Cond.code ({ cls := "com/example/loopsmith/loopsmith/queue/Slots", name := "grownCapacity", desc := "()I" } : Jvm.MethodName) prog_42_method_3_code (2 : Nat) (Option.some Jvm.ClassFile.FieldType.int), Jvm.Cond.code ({ cls := "java/util/Arrays", name := "copyOf", desc := "([Ljava/lang/Object;I)[Ljava/lang/Object;" } : Jvm.MethodName) jdk_65_method_119_code (2 : Nat) (Option.some (Jvm.ClassFile.FieldType.array (Jvm.ClassFile.FieldType.object "java/lang/Object"))), Jvm.Cond.code ({ cls := "java/util/Arrays", name := "copyOf", desc := "([Ljava/lang/Object;ILjava/lang/Class;)[Ljava/lang/Object;" } : Jvm.MethodName) jdk_65_method_120_code (4 : Nat) (Option.some (Jvm.ClassFile.FieldType.array (Jvm.ClassFile.FieldType.object "java/lang/Object"))), Jvm.Cond.code ({ cls := "java/lang/Math", name := "min", desc := "(II)I" } : Jvm.MethodName) jdk_29_method_69_code (2 : Nat) (Option.some Jvm.ClassFile.FieldType.int), Jvm.Cond.code ({ cls := "java/util/Arrays", name := "copyOf", desc := "([JI)[J" } : Jvm.MethodName) jdk_65_method_124_code (3 : Nat) (Option.some (Jvm.ClassFile.FieldType.array Jvm.ClassFile.FieldType.long)), Jvm.Cond.code ({ cls := "java/util/Arrays", name := "copyOf", desc := "([BI)[B" } : Jvm.MethodName) jdk_65_method_121_code (3 : Nat) (Option.some (Jvm.ClassFile.FieldType.array Jvm.ClassFile.FieldType.byte)), Jvm.Cond.code ({ cls := "java/lang/Integer", name := "<init>", desc := "(I)V" } : Jvm.MethodName) jdk_33_method_23_code (2 : Nat) (Option.none : Option Jvm.ClassFile.FieldType), Jvm.Cond.code ({ cls := "java/lang/Number", name := "<init>", desc := "()V" } : Jvm.MethodName) jdk_18_method_1_code (1 : Nat) (Option.none : Option Jvm.ClassFile.FieldType), Jvm.Cond.code ({ cls := "com/example/loopsmith/loopsmith/queue/Slots", name := "set", desc := "(ILjava/lang/Object;Lcom/example/loopsmith/loopsmith/queue/Message$Target;JJB)V" } : Jvm.MethodName) prog_42_method_11_code (13 : Nat) (Option.none : Option Jvm.ClassFile.FieldType), Jvm.Cond.code ({ cls := "com/example/loopsmith/loopsmith/queue/Slots", name := "when", desc := "(I)J" } : Jvm.MethodName) prog_42_method_8_code (2 : Nat) (Option.some Jvm.ClassFile.FieldType.long), Jvm.Cond.code ({ cls := "com/example/loopsmith/loopsmith/queue/Slots", name := "item", desc := "(I)Ljava/lang/Object;" } : Jvm.MethodName) prog_42_method_6_code (2 : Nat) (Option.some (Jvm.ClassFile.FieldType.object "java/lang/Object"))]
set_option maxRecDepth 65536 in
theorem codes_eq : words1.filter isCode = codes1 := rfl
theorem w_codes : ∀ c ∈ words1.filter isCode, c.before args0 about1 = true := by
  rw [codes_eq]
  intro c hc
  simp only [codes1, List.mem_cons, List.not_mem_nil, or_false] at hc
  rcases hc with rfl | rfl | rfl | rfl | rfl | rfl | rfl | rfl | rfl | rfl | rfl | rfl | rfl | rfl | rfl | rfl | rfl | rfl | rfl | rfl | rfl | rfl
  · exact w_c0
  · exact w_c1
  · exact w_c2
  · exact w_ao21
  · exact w_ao19
  · exact w_ao15
  · exact w_c3
  · exact w_c4
  · exact w_c5
  · exact w_c6
  · exact w_c7
  · exact w_c8
  · exact w_c9
  · exact w_c10
  · exact w_c11
  · exact w_c12
  · exact w_c13
  · exact w_c14
  · exact w_c15
  · exact w_c16
  · exact w_c17
  · exact w_c18
set_option maxRecDepth 65536 in
theorem w_t1 : (words1.take 24).all (fun c => isCode c || c.before args0 about1) = true := by decide +kernel
set_option maxRecDepth 65536 in
theorem w_t2 : ((words1.drop 24).take 24).all (fun c => isCode c || c.before args0 about1) = true := by decide +kernel
set_option maxRecDepth 65536 in
theorem w_t3 : (((words1.drop 24).drop 24).take 24).all (fun c => isCode c || c.before args0 about1) = true := by decide +kernel
set_option maxRecDepth 65536 in
theorem w_t4 : ((((words1.drop 24).drop 24).drop 24).take 24).all (fun c => isCode c || c.before args0 about1) = true := by decide +kernel
set_option maxRecDepth 65536 in
theorem w_t5 : (((((words1.drop 24).drop 24).drop 24).drop 24).take 24).all (fun c => isCode c || c.before args0 about1) = true := by decide +kernel
set_option maxRecDepth 65536 in
theorem w_t6 : (((((words1.drop 24).drop 24).drop 24).drop 24).drop 24).all (fun c => isCode c || c.before args0 about1) = true := by decide +kernel
theorem w_tables : (allAtoms (Jvm.Cond.code x code maxLocals ret :: tables_1)).before args0 about1 = true := by
  rw [allAtoms_all]
  show words1.all (fun c => c.before args0 about1) = true
  refine all_split ?_ w_codes
  rw [← List.take_append_drop 24 words1, List.all_append, w_t1, ← List.take_append_drop 24 (words1.drop 24), List.all_append, w_t2, ← List.take_append_drop 24 ((words1.drop 24).drop 24), List.all_append, w_t3, ← List.take_append_drop 24 (((words1.drop 24).drop 24).drop 24), List.all_append, w_t4, ← List.take_append_drop 24 ((((words1.drop 24).drop 24).drop 24).drop 24), List.all_append, w_t5, w_t6]
  rfl
set_option maxRecDepth 65536 in
theorem w_rest : rest_1_c.before args0 about1 = true := by decide +kernel
set_option maxRecDepth 65536 in
theorem w_case : (Jvm.Cond.and given_1 narrow_1).before args0 about1 = true := by decide +kernel
theorem w_applies : (headSpec (Jvm.Cond.code x code maxLocals ret :: tables_1) room_1).applies x e0.platform about1 = true :=
  (Spec.applies_iff w_frames).mpr ⟨w_running, w_runnable, w_alone, w_named, w_hears, w_ripe, w_room, w_tables⟩
set_option maxRecDepth 65536 in
theorem atStart : AtStart classFile x code maxLocals ret World_1 tables_1 room_1 Calls_1 rest_1 Pre_1 launch0 p0 e0 about1 theMethod args0 below0 :=
  ⟨lists_1, trivial, launch0.admits_env _ _ _, launch0.least_env, fairChoices_fair.cas, fairChoices_fair.clock, w_frames, w_args, w_heap, w_applies, ⟨⟨21, k21, 2, by decide +kernel, rfl, rfl, _, rfl, rfl⟩, trivial⟩, w_rest, w_case⟩
end start1
theorem witness_1 : WitnessClaimed_1 := ⟨start1.p0, start1.e0, start1.about1, start1.theMethod, start1.args0, start1.below0, start1.atStart⟩
end Jvm.Pilot.@@N@@
