import JvmDerived
import JvmDerived.Pilot.@@N@@Statement
import JvmDerived.Pilot.@@N@@Code
set_option linter.unusedVariables false
set_option linter.unusedSimpArgs false
namespace Jvm.RoadKit
open Sem ClassFile Op Lib Jvm.Stand Jvm.Free Jvm.LawKit
section New
variable {p : Program} {l : Launch} {e : Env} {R : Room} {s : State} {m : MethodId} {args : Array Value} {below : List Frame} {meth : Method} {c : Code} {T : State} {locs : List Loc} {cells slots : Nat}
theorem retI (X : Stand p l e R s m args below meth c T locs cells slots) (hx : p.tables.exec = Jvm.exec) {pc : Nat} {Ls : Array Slot} {z : Int32} {rest : List Value} (hret : meth.sig.returnType = some .int) (hd : decode c.code pc = .ok (.ireturn, 1)) {fs : List Frame}
    (hl : ∀ (f : JFrame) (acts : List Action), f.method = m → f.locked = none → f.entered = [] → (doReturn e (T.setTop f) acts (some (.int z))).1 = T.setFrames fs) : Steps p.tables e below (T.setTop (mkF m pc Ls (.int z :: rest))) (T.setFrames fs) := by
  have hm' : T.vm.method? m = some meth := X.method'
  have hn : narrow .int (.int z) = .int z := rfl
  show Steps p.tables e below (T.setTop { method := m, pc := pc, locals := Ls, stack := _ :: rest, locked := none }) _
  jvm_step X.here [X.here.top, hx, hd, hm', hret, hn]
  first | (intro acts; rw [hl _ acts rfl rfl rfl]) | rw [hl _ _ rfl rfl rfl]
  exact Steps.refl _
end New
end Jvm.RoadKit

namespace Jvm.Pilot.@@N@@
open Jvm Jvm.ClassFile Sem Op Lib Jvm.Free Jvm.Stand Jvm.LawKit Jvm.RoadKit Bundle Jvm.Pilot.@@N@@.Jvm.D
theorem own_nb (x : Int32) : nar .byte (x.toInt8.toInt32) = x.toInt8.toInt32 := by
  show (x.toInt8.toInt32).toInt8.toInt32 = x.toInt8.toInt32
  simp
theorem own_fb {x : Int32} (h : nar .byte x = x) : fits .byte (.int x) = true := by
  have q := fits_nar_byte x
  have e : x.toInt8.toInt32 = x := h
  rwa [e] at q
theorem own_nc (x : Int32) : nar .char (x.toUInt32.toUInt16.toUInt32.toInt32) = x.toUInt32.toUInt16.toUInt32.toInt32 := by
  show (x.toUInt32.toUInt16.toUInt32.toInt32).toUInt32.toUInt16.toUInt32.toInt32 = x.toUInt32.toUInt16.toUInt32.toInt32
  apply Int32.toInt_inj.mp
  have h1 := c_i2c x
  have h2 := c_i2c (x.toUInt32.toUInt16.toUInt32.toInt32)
  omega
theorem own_fc {x : Int32} (h : nar .char x = x) : fits .char (.int x) = true := by
  have q := fits_nar_char x
  rwa [h] at q
theorem own_selp {s : State} {args : Array Value} {y : MethodName} {n : Nat} (wi : (Jvm.Cond.instantiable y.cls n).before args s = true) (hp : s.PrivateAt y) (hm : (Jvm.Cond.instanceMethod y).before args s = true) (hy : y.cls ≠ "java/lang/invoke/MethodHandle" ∧ y.cls ≠ "java/lang/invoke/VarHandle") : (Jvm.Cond.selects y.cls y y).before args s = true := by
  obtain ⟨t, k, g0, g2, g5, g7, -⟩ := Cond.instantiable_spec wi
  exact selects_self_of_private g0 g2 (Bool.or_eq_false_iff.mp g7).1 hp hm hy
theorem own_wS {Z : State} {a0 : Array Value} (hw : ∀ d ∈ tables_1, d.before a0 Z = true) : ∀ a ∈ Bundle.stringAtoms, a.before a0 Z = true := by
  intro a ha
  simp only [Bundle.stringAtoms, List.mem_cons, List.not_mem_nil, or_false] at ha
  rcases ha with rfl | rfl | rfl | rfl | rfl | rfl | rfl
  · exact hw _ (List.mem_of_getElem? (i := 7) rfl)
  · exact hw _ (List.mem_of_getElem? (i := 15) rfl)
  · exact hw _ (List.mem_of_getElem? (i := 19) rfl)
  · exact hw _ (List.mem_of_getElem? (i := 28) rfl)
  · exact hw _ (List.mem_of_getElem? (i := 30) rfl)
  · exact hw _ (List.mem_of_getElem? (i := 38) rfl)
  · exact hw _ (List.mem_of_getElem? (i := 39) rfl)
theorem own_backSH {p : Program} {l : Launch} {e : Env} {R : Room} {s : State} {args : Array Value} {below : List Frame} {Z : State} {a0 : Array Value} {EL : List (String × Nat)} {h : Heap} {y : MethodName} {bytes : ByteArray} {maxL : Nat} {ret : Option FieldType} {rm : Room} {len W : Nat} {as' : Array Value} {Q : Option Value → Heap → List Loc → Prop}
    (hM : MetFree l y (head1 [Cond.code y bytes maxL ret] rm) (fun a U => a = as' ∧ Z.Warmed39 U.vm ∧ U.heap = h ∧ CHv Z EL U.vm h) (fun _ _ _ _ _ => True) (fun _ U o U' => ∃ v L, o = .returned v ∧ Q v U'.heap L ∧ ReturnedEndW U o U' L rm.cells rm.slots))
    (hZ : Z.Warmed39 s.vm) (wc : (Cond.code y bytes maxL ret).before a0 Z = true) (wz : (Cond.initialized y.cls).before a0 Z = true) (hf : rm.frames + 1 ≤ R.frames) (hl : W + (maxL + 11) + rm.locals ≤ R.locals) (hEL : EW Z a0 EL) (H : CHv Z EL s.vm h) :
    BackS l R p e below s args y len W (fun A a => a = as' ∧ A.U.heap = h ∧ A.cells + rm.cells ≤ R.cells ∧ A.slots + rm.slots ≤ R.slots)
      (fun A _ v B => ∃ L, Q v B.U.heap L ∧ B.locs = A.locs ++ L ∧ B.cells = A.cells + rm.cells ∧ B.slots = A.slots + rm.slots) :=
  BackS.of_freeW (bytes := bytes) (maxL := maxL) (ret := ret) (E := fun _ _ o t L k n => k = rm.cells ∧ n = rm.slots ∧ ∃ v, o = .returned v ∧ Q v t.heap L) hM hf hl
    (fun m meth c A a Y hp => have hU : Z.Warmed39 A.U.vm := wtrans hZ Y.warmed
      ⟨by show (Cond.and _ .tt).before a A.U = true; rw [Cond.before_and, mv hU wc]; rfl, mv hU wc, mv hU wz, hp.2.2.1, hp.2.2.2⟩)
    (fun m meth c A a g mk Y hp => ⟨hp.1, wtrans hZ Y.warmed, hp.2.1, (CHv.at (s := s) (vm0 := s.vm) Y hZ hEL H).1⟩) (fun _ _ _ _ _ _ _ _ _ => trivial)
    (fun _ _ _ _ ⟨v, L, h1, h2, h3⟩ => ⟨L, _, _, h3, rfl, rfl, v, h1, h2⟩)
    (fun m meth c A a g mk v t L k n Y hp _ _ ⟨e1, e2, v', e3, e4⟩ => by cases e3; subst e1 e2; exact ⟨L, e4, rfl, rfl, rfl⟩)
theorem own_EW {Z : State} {a0 : Array Value} (hw : ∀ d ∈ tables_1, d.before a0 Z = true) : EW Z a0 consts_1 := EW.cons (text := "**") (hw _ (List.mem_of_getElem? (i := 37) rfl)) (by decide +kernel) EW.nil
def own_ok (c : Int32) : Prop := ¬ (c < (0 : Int32)) ∧ c < (128 : Int32)
theorem own_all {P : Int32 → Prop} (h : ∀ n : Fin 128, P n.1.toInt32) (c : Int32) (hc : own_ok c) : P c := by
  have q := back32 hc.1
  have hl : c.toNatClampNeg < 128 := by
    have h1 := hc.2
    have h0 := hc.1
    simp only [Int32.lt_iff_toInt_lt, Int32.reduceToInt] at h0 h1
    simp only [Int32.toNatClampNeg]; omega
  exact q.1 ▸ h ⟨c.toNatClampNeg, hl⟩
theorem own_b (c : Int32) (hc : own_ok c) : c.toInt8.toInt32 = c := own_all (P := fun c => c.toInt8.toInt32 = c) (by decide +kernel) c hc
theorem own_c (c : Int32) (hc : own_ok c) : c.toUInt32.toUInt16.toUInt32.toInt32 = c := own_all (P := fun c => c.toUInt32.toUInt16.toUInt32.toInt32 = c) (by decide +kernel) c hc
theorem own_nrc (c : Int32) (hc : own_ok c) : nar .char c = c := own_all (P := fun c => nar .char c = c) (by decide +kernel) c hc
theorem own_nrb (c : Int32) (hc : own_ok c) : nar .byte c = c := own_all (P := fun c => nar .byte c = c) (by decide +kernel) c hc
theorem own_255 (c : Int32) (hc : own_ok c) : (c &&& (255 : Int32)) = c := own_all (P := fun c => (c &&& (255 : Int32)) = c) (by decide +kernel) c hc
theorem own_le (c : Int32) (hc : own_ok c) : ¬ ((255 : Int32) < c) := own_all (P := fun c => ¬ ((255 : Int32) < c)) (by decide +kernel) c hc
def own_bit (c : Int32) : Int64 := ((0 : Int64) ||| ((1 : Int64) <<< (c &&& 0x3f).toInt64))
def own_isw (p0 : Int32) : Int32 := (if p0 = (42 : Int32) then (1 : Int32) else (if p0 = (63 : Int32) then (1 : Int32) else (0 : Int32)))
theorem pn0 : plainName "com/example/subject/subject/model/Wildcards" = true := by first | (simp [plainName, overriddenIn]; done) | decide +kernel
theorem d1_0 : decode prog_51_method_3_code 0 = .ok (.iload_n 0, 1) := by decide +kernel
theorem d1_1 : decode prog_51_method_3_code 1 = .ok (.bipush 42, 2) := by decide +kernel
theorem d1_3 : decode prog_51_method_3_code 3 = .ok (.if_icmp .eq 9, 3) := by decide +kernel
theorem d1_12 : decode prog_51_method_3_code 12 = .ok (.iconst 1, 1) := by decide +kernel
theorem d1_13 : decode prog_51_method_3_code 13 = .ok (.goto 4, 3) := by decide +kernel
theorem d1_17 : decode prog_51_method_3_code 17 = .ok (.ireturn, 1) := by decide +kernel
theorem d1_6 : decode prog_51_method_3_code 6 = .ok (.iload_n 0, 1) := by decide +kernel
theorem d1_7 : decode prog_51_method_3_code 7 = .ok (.bipush 63, 2) := by decide +kernel
theorem d1_9 : decode prog_51_method_3_code 9 = .ok (.if_icmp .ne 7, 3) := by decide +kernel
theorem d1_16 : decode prog_51_method_3_code 16 = .ok (.iconst 0, 1) := by decide +kernel
theorem ef_1 (m : MethodId) (x0 : Int32) : entryFrame m #[(.int x0)] 1 = mkF m 0 #[.val (.int x0)] [] := by first | (simp [entryFrame, mkF, argsToLocals, Value.category]; done) | rfl
def Q1 (Z : State) (p0 : Int32) (w : Int32) (h0 : Heap) (n0 : Nat) (v : Option Value) (h : Heap) (L : List Loc) : Prop := v = some (.int w) ∧ Fr n0 L ∧ h = h0
set_option maxRecDepth 65536 in
set_option maxHeartbeats 40000000 in
theorem rm1 (l : Launch) (Z : State) (a0 : Array Value) (hw : ∀ d ∈ tables_1, d.before a0 Z = true) (ws : List Jvm.Cond) (p0 : Int32) (w : Int32) (h0 : Heap) (n0 : Nat) (Z0 : n0 ≤ h0.size) (hv : own_isw p0 = w) :
    MetFree l (⟨"com/example/subject/subject/model/Wildcards", "isWildcard", "(I)Z"⟩ : MethodName) (head1 (Jvm.Cond.code (⟨"com/example/subject/subject/model/Wildcards", "isWildcard", "(I)Z"⟩ : MethodName) prog_51_method_3_code 1 (some .boolean) :: ws) ({ frames := 0, cells := 0, slots := 0, locals := 0 } : Room)) (fun a U => a = #[(.int p0)] ∧ Z.Warmed39 U.vm ∧ U.heap = h0) (fun _ _ _ _ _ => True) (fun _ U o U' => ∃ v L, o = .returned v ∧ Q1 Z p0 w h0 n0 v U'.heap L ∧ FrameEnd U o U' L ({ frames := 0, cells := 0, slots := 0, locals := 0 } : Room).cells ({ frames := 0, cells := 0, slots := 0, locals := 0 } : Room).slots) := by
  refine MetFree.of_bodySF (plainFor_of_name pn0) hisR ?_
  intro p e s m args below meth c s₁ Bd hml0 hP hK
  obtain ⟨rfl, hZ, hh⟩ := hP
  have hx := Bd.exec
  have hby := Bd.bytes
  have hml : c.maxLocals = 1 := hml0
  have hown : s.vm.findClass "com/example/subject/subject/model/Wildcards" = some m.cls := findClass_of_methodNamed Bd.named
  have hnm := (name_of_methodNamed Bd.named Bd.method).1
  have X0 : Stand p l e ({ frames := 0, cells := 0, slots := 0, locals := 0 } : Room) s m #[(.int p0)] below meth c s₁ [] 0 0 := Stand.of_body Bd
  have e0 : s₁.heap = h0 := by rw [← hh, Bd.state]; rfl
  have N0 := Fr.nil n0
  have pre0 : ∀ t, Steps p.tables e below (s₁.setTop (mkF m 0 #[iv p0] [])) t → Steps p.tables e below (s₁.setTop (entryFrame m #[(.int p0)] 1)) t := fun t k => castTop (ef_1 m p0) k
  have pre1 : ∀ t, Steps p.tables e below (s₁.setTop (mkF m 3 #[iv p0] [(.int (42 : Int32)), (.int p0)])) t → Steps p.tables e below (s₁.setTop (entryFrame m #[(.int p0)] 1)) t := by
    intro t kt
    refine pre0 _ ?_
    show Steps p.tables e below (s₁.setTop (mkF m 0 #[iv p0] [])) _
    refine XS.iloadN X0.here hx rfl (hb hby d1_0) rfl ?_
    refine XS.bipush X0.here hx rfl (hb hby d1_1) ?_
    exact kt
  by_cases hc3 : p0 = (42 : Int32)
  · have pre2 : ∀ t, Steps p.tables e below (s₁.setTop (mkF m 17 #[iv p0] [(.int (1 : Int32))])) t → Steps p.tables e below (s₁.setTop (entryFrame m #[(.int p0)] 1)) t := by
      intro t kt
      refine pre1 _ ?_
      show Steps p.tables e below (s₁.setTop (mkF m 3 #[iv p0] [(.int (42 : Int32)), (.int p0)])) _
      refine XS.icmpYes X0.here hx rfl (pc0 := 3) (pc' := 12) rfl (hb hby d1_3) rfl (teq hc3).1 (by decide) (by decide) ?_
      refine XS.iconst X0.here hx rfl (hb hby d1_12) ?_
      refine XS.goto X0.here hx rfl (pc0 := 13) (pc' := 17) rfl (hb hby d1_13) (by decide) (by decide) ?_
      exact kt
    obtain ⟨fs, hr, hrun, hended, hW, hsame⟩ := X0.leave (v := some (.int (1 : Int32))) (fun h => by rw [Bd.returns] at h; cases h)
    refine ⟨_, _, pre2 _ ?_, hrun, hended, _, _, rfl, ?_, ⟨_, rfl⟩, hW, hsame.mono (by decide) (by decide)⟩
    · show Steps p.tables e below (s₁.setTop (mkF m 17 #[iv p0] [(.int (1 : Int32))])) _
      exact retN X0 hx (t := .boolean) Bd.returns (by simp) (hb hby d1_17) hr
    · show Q1 Z p0 w h0 n0 _ s₁.heap _
      rw [e0]
      exact ⟨congrArg (fun z => some (Value.int z)) (((if_pos hc3).trans rfl).symm.trans hv), N0, rfl⟩
  · have pre3 : ∀ t, Steps p.tables e below (s₁.setTop (mkF m 9 #[iv p0] [(.int (63 : Int32)), (.int p0)])) t → Steps p.tables e below (s₁.setTop (entryFrame m #[(.int p0)] 1)) t := by
      intro t kt
      refine pre1 _ ?_
      show Steps p.tables e below (s₁.setTop (mkF m 3 #[iv p0] [(.int (42 : Int32)), (.int p0)])) _
      refine XS.icmpNo X0.here hx rfl (hb hby d1_3) rfl (feq hc3).1 ?_
      refine XS.iloadN X0.here hx rfl (hb hby d1_6) rfl ?_
      refine XS.bipush X0.here hx rfl (hb hby d1_7) ?_
      exact kt
    by_cases hc9 : p0 = (63 : Int32)
    · have pre4 : ∀ t, Steps p.tables e below (s₁.setTop (mkF m 17 #[iv p0] [(.int (1 : Int32))])) t → Steps p.tables e below (s₁.setTop (entryFrame m #[(.int p0)] 1)) t := by
        intro t kt
        refine pre3 _ ?_
        show Steps p.tables e below (s₁.setTop (mkF m 9 #[iv p0] [(.int (63 : Int32)), (.int p0)])) _
        refine XS.icmpNo X0.here hx rfl (hb hby d1_9) rfl (teq hc9).2 ?_
        refine XS.iconst X0.here hx rfl (hb hby d1_12) ?_
        refine XS.goto X0.here hx rfl (pc0 := 13) (pc' := 17) rfl (hb hby d1_13) (by decide) (by decide) ?_
        exact kt
      obtain ⟨fs, hr, hrun, hended, hW, hsame⟩ := X0.leave (v := some (.int (1 : Int32))) (fun h => by rw [Bd.returns] at h; cases h)
      refine ⟨_, _, pre4 _ ?_, hrun, hended, _, _, rfl, ?_, ⟨_, rfl⟩, hW, hsame.mono (by decide) (by decide)⟩
      · show Steps p.tables e below (s₁.setTop (mkF m 17 #[iv p0] [(.int (1 : Int32))])) _
        exact retN X0 hx (t := .boolean) Bd.returns (by simp) (hb hby d1_17) hr
      · show Q1 Z p0 w h0 n0 _ s₁.heap _
        rw [e0]
        exact ⟨congrArg (fun z => some (Value.int z)) (((if_neg hc3).trans ((if_pos hc9).trans rfl)).symm.trans hv), N0, rfl⟩
    · have pre5 : ∀ t, Steps p.tables e below (s₁.setTop (mkF m 17 #[iv p0] [(.int (0 : Int32))])) t → Steps p.tables e below (s₁.setTop (entryFrame m #[(.int p0)] 1)) t := by
        intro t kt
        refine pre3 _ ?_
        show Steps p.tables e below (s₁.setTop (mkF m 9 #[iv p0] [(.int (63 : Int32)), (.int p0)])) _
        refine XS.icmpYes X0.here hx rfl (pc0 := 9) (pc' := 16) rfl (hb hby d1_9) rfl (feq hc9).2 (by decide) (by decide) ?_
        refine XS.iconst X0.here hx rfl (hb hby d1_16) ?_
        exact kt
      obtain ⟨fs, hr, hrun, hended, hW, hsame⟩ := X0.leave (v := some (.int (0 : Int32))) (fun h => by rw [Bd.returns] at h; cases h)
      refine ⟨_, _, pre5 _ ?_, hrun, hended, _, _, rfl, ?_, ⟨_, rfl⟩, hW, hsame.mono (by decide) (by decide)⟩
      · show Steps p.tables e below (s₁.setTop (mkF m 17 #[iv p0] [(.int (0 : Int32))])) _
        exact retN X0 hx (t := .boolean) Bd.returns (by simp) (hb hby d1_17) hr
      · show Q1 Z p0 w h0 n0 _ s₁.heap _
        rw [e0]
        exact ⟨congrArg (fun z => some (Value.int z)) (((if_neg hc3).trans ((if_neg hc9).trans rfl)).symm.trans hv), N0, rfl⟩
theorem pn1 : plainName "java/lang/StringLatin1" = true := by first | (simp [plainName, overriddenIn]; done) | decide +kernel
theorem d3_0 : decode jdk_43_method_3_code 0 = .ok (.iload_n 0, 1) := by decide +kernel
theorem d3_1 : decode jdk_43_method_3_code 1 = .ok (.sipush 255, 3) := by decide +kernel
theorem d3_4 : decode jdk_43_method_3_code 4 = .ok (.if_icmp .gt 7, 3) := by decide +kernel
theorem d3_7 : decode jdk_43_method_3_code 7 = .ok (.iconst 1, 1) := by decide +kernel
theorem d3_8 : decode jdk_43_method_3_code 8 = .ok (.goto 4, 3) := by decide +kernel
theorem d3_12 : decode jdk_43_method_3_code 12 = .ok (.ireturn, 1) := by decide +kernel
theorem ef_3 (m : MethodId) (x0 : Int32) : entryFrame m #[(.int x0)] 1 = mkF m 0 #[.val (.int x0)] [] := by first | (simp [entryFrame, mkF, argsToLocals, Value.category]; done) | rfl
def Q3 (Z : State) (p0 : Int32) (h0 : Heap) (n0 : Nat) (v : Option Value) (h : Heap) (L : List Loc) : Prop := v = some (.int 1) ∧ Fr n0 L ∧ h = h0
set_option maxRecDepth 65536 in
set_option maxHeartbeats 40000000 in
theorem rm3 (l : Launch) (Z : State) (a0 : Array Value) (hw : ∀ d ∈ tables_1, d.before a0 Z = true) (ws : List Jvm.Cond) (p0 : Int32) (h0 : Heap) (n0 : Nat) (Z0 : n0 ≤ h0.size) (hok_p0 : own_ok p0) :
    MetFree l (⟨"java/lang/StringLatin1", "canEncode", "(C)Z"⟩ : MethodName) (head1 (Jvm.Cond.code (⟨"java/lang/StringLatin1", "canEncode", "(C)Z"⟩ : MethodName) jdk_43_method_3_code 1 (some .boolean) :: ws) ({ frames := 0, cells := 0, slots := 0, locals := 0 } : Room)) (fun a U => a = #[(.int p0)] ∧ Z.Warmed39 U.vm ∧ U.heap = h0) (fun _ _ _ _ _ => True) (fun _ U o U' => ∃ v L, o = .returned v ∧ Q3 Z p0 h0 n0 v U'.heap L ∧ FrameEnd U o U' L ({ frames := 0, cells := 0, slots := 0, locals := 0 } : Room).cells ({ frames := 0, cells := 0, slots := 0, locals := 0 } : Room).slots) := by
  refine MetFree.of_bodySF (plainFor_of_name pn1) hisR ?_
  intro p e s m args below meth c s₁ Bd hml0 hP hK
  obtain ⟨rfl, hZ, hh⟩ := hP
  have hx := Bd.exec
  have hby := Bd.bytes
  have hml : c.maxLocals = 1 := hml0
  have hown : s.vm.findClass "java/lang/StringLatin1" = some m.cls := findClass_of_methodNamed Bd.named
  have hnm := (name_of_methodNamed Bd.named Bd.method).1
  have X0 : Stand p l e ({ frames := 0, cells := 0, slots := 0, locals := 0 } : Room) s m #[(.int p0)] below meth c s₁ [] 0 0 := Stand.of_body Bd
  have e0 : s₁.heap = h0 := by rw [← hh, Bd.state]; rfl
  have N0 := Fr.nil n0
  have pre0 : ∀ t, Steps p.tables e below (s₁.setTop (mkF m 0 #[iv p0] [])) t → Steps p.tables e below (s₁.setTop (entryFrame m #[(.int p0)] 1)) t := fun t k => castTop (ef_3 m p0) k
  have pre2 : ∀ t, Steps p.tables e below (s₁.setTop (mkF m 4 #[iv p0] [(.int (255 : Int32)), (.int p0)])) t → Steps p.tables e below (s₁.setTop (entryFrame m #[(.int p0)] 1)) t := by
    intro t kt
    refine pre0 _ ?_
    show Steps p.tables e below (s₁.setTop (mkF m 0 #[iv p0] [])) _
    refine XS.iloadN X0.here hx rfl (hb hby d3_0) rfl ?_
    refine XS.sipush X0.here hx rfl (hb hby d3_1) ?_
    exact kt
  have hc4_1 : ¬ ((255 : Int32) < p0) := (own_le p0 hok_p0)
  have pre3 : ∀ t, Steps p.tables e below (s₁.setTop (mkF m 12 #[iv p0] [(.int (1 : Int32))])) t → Steps p.tables e below (s₁.setTop (entryFrame m #[(.int p0)] 1)) t := by
    intro t kt
    refine pre2 _ ?_
    show Steps p.tables e below (s₁.setTop (mkF m 4 #[iv p0] [(.int (255 : Int32)), (.int p0)])) _
    refine XS.icmpNo X0.here hx rfl (hb hby d3_4) rfl (flt hc4_1).2.2.1 ?_
    refine XS.iconst X0.here hx rfl (hb hby d3_7) ?_
    refine XS.goto X0.here hx rfl (pc0 := 8) (pc' := 12) rfl (hb hby d3_8) (by decide) (by decide) ?_
    exact kt
  obtain ⟨fs, hr, hrun, hended, hW, hsame⟩ := X0.leave (v := some (.int (1 : Int32))) (fun h => by rw [Bd.returns] at h; cases h)
  refine ⟨_, _, pre3 _ ?_, hrun, hended, _, _, rfl, ?_, ⟨_, rfl⟩, hW, hsame.mono (by decide) (by decide)⟩
  · show Steps p.tables e below (s₁.setTop (mkF m 12 #[iv p0] [(.int (1 : Int32))])) _
    exact retN X0 hx (t := .boolean) Bd.returns (by simp) (hb hby d3_12) hr
  · show Q3 Z p0 h0 n0 _ s₁.heap _
    rw [e0]
    exact ⟨rfl, N0, rfl⟩
theorem d4_0 : decode jdk_43_method_46_code 0 = .ok (.iconst 1, 1) := by decide +kernel
theorem d4_1 : decode jdk_43_method_46_code 1 = .ok (.newarray .byte, 2) := by decide +kernel
theorem d4_3 : decode jdk_43_method_46_code 3 = .ok (.dup, 1) := by decide +kernel
theorem d4_4 : decode jdk_43_method_46_code 4 = .ok (.iconst 0, 1) := by decide +kernel
theorem d4_5 : decode jdk_43_method_46_code 5 = .ok (.iload_n 0, 1) := by decide +kernel
theorem d4_6 : decode jdk_43_method_46_code 6 = .ok (.i2b, 1) := by decide +kernel
theorem d4_7 : decode jdk_43_method_46_code 7 = .ok (.bastore, 1) := by decide +kernel
theorem d4_8 : decode jdk_43_method_46_code 8 = .ok (.areturn, 1) := by decide +kernel
theorem ef_4 (m : MethodId) (x0 : Int32) : entryFrame m #[(.int x0)] 1 = mkF m 0 #[.val (.int x0)] [] := by first | (simp [entryFrame, mkF, argsToLocals, Value.category]; done) | rfl
def Q4 (Z : State) (p0 : Int32) (h0 : Heap) (n0 : Nat) (v : Option Value) (h : Heap) (L : List Loc) : Prop := ∃ y k, v = some (.ref y) ∧ Fr n0 L ∧ Keep h0 h [] ∧ h0.size ≤ y ∧ Arv Z h y k .byte (1 : Int32) [(.int p0)] (.int (0 : Int32))
set_option maxRecDepth 65536 in
set_option maxHeartbeats 40000000 in
theorem rm4 (l : Launch) (Z : State) (a0 : Array Value) (hw : ∀ d ∈ tables_1, d.before a0 Z = true) (ws : List Jvm.Cond) (p0 : Int32) (h0 : Heap) (n0 : Nat) (Z0 : n0 ≤ h0.size) (hok_p0 : own_ok p0) :
    MetFree l (⟨"java/lang/StringLatin1", "toBytes", "(C)[B"⟩ : MethodName) (head1 (Jvm.Cond.code (⟨"java/lang/StringLatin1", "toBytes", "(C)[B"⟩ : MethodName) jdk_43_method_46_code 1 (some (.array .byte)) :: ws) ({ frames := 0, cells := 1, slots := 1, locals := 0 } : Room)) (fun a U => a = #[(.int p0)] ∧ Z.Warmed39 U.vm ∧ U.heap = h0) (fun _ _ _ _ _ => True) (fun _ U o U' => ∃ v L, o = .returned v ∧ Q4 Z p0 h0 n0 v U'.heap L ∧ FrameEnd U o U' L ({ frames := 0, cells := 1, slots := 1, locals := 0 } : Room).cells ({ frames := 0, cells := 1, slots := 1, locals := 0 } : Room).slots) := by
  refine MetFree.of_bodySF (plainFor_of_name pn1) hisR ?_
  intro p e s m args below meth c s₁ Bd hml0 hP hK
  obtain ⟨rfl, hZ, hh⟩ := hP
  have hx := Bd.exec
  have hby := Bd.bytes
  have hml : c.maxLocals = 1 := hml0
  have hown : s.vm.findClass "java/lang/StringLatin1" = some m.cls := findClass_of_methodNamed Bd.named
  have hnm := (name_of_methodNamed Bd.named Bd.method).1
  have X0 : Stand p l e ({ frames := 0, cells := 1, slots := 1, locals := 0 } : Room) s m #[(.int p0)] below meth c s₁ [] 0 0 := Stand.of_body Bd
  have e0 : s₁.heap = h0 := by rw [← hh, Bd.state]; rfl
  have N0 := Fr.nil n0
  have pre0 : ∀ t, Steps p.tables e below (s₁.setTop (mkF m 0 #[iv p0] [])) t → Steps p.tables e below (s₁.setTop (entryFrame m #[(.int p0)] 1)) t := fun t k => castTop (ef_4 m p0) k
  have pre1 : ∀ t, Steps p.tables e below (s₁.setTop (mkF m 1 #[iv p0] [(.int (1 : Int32))])) t → Steps p.tables e below (s₁.setTop (entryFrame m #[(.int p0)] 1)) t := by
    intro t kt
    refine pre0 _ ?_
    show Steps p.tables e below (s₁.setTop (mkF m 0 #[iv p0] [])) _
    refine XS.iconst X0.here hx rfl (hb hby d4_0) ?_
    exact kt
  obtain ⟨T2, h2, k2, X2, e2, E2, A2, Ex2, st2⟩ := newPE X0 hx hZ (hw _ (List.mem_of_getElem? (i := 19) rfl)) e0 (g := (mkF m 1 #[iv p0] [(.int (1 : Int32))])) rfl (hb hby d4_1) rfl (by decide) (cap := 1) (by decide) (by decide) (by decide) (by decide) (ad := "[B") rfl
  obtain ⟨b2, g2⟩ : ∃ z, z = h0.size := ⟨_, rfl⟩
  rw [← g2] at A2 Ex2 st2
  have g_b2 : n0 ≤ b2 := Nat.le_trans (Nat.le_trans Z0 (Keep.refl h0 []).1) (Nat.le_of_eq g2.symm)
  have sz_b2 : h0.size ≤ b2 := Nat.le_trans (Keep.refl h0 []).1 (Nat.le_of_eq g2.symm)
  have V_b2 : Arv Z h2 b2 k2 .byte (1 : Int32) [(.int (0 : Int32))] (.int (0 : Int32)) := (Arv.new A2 (by decide)).pad (pad_rep [] (.int (0 : Int32)) 1)
  have K2 : Keep h0 h2 [] := (Keep.refl h0 []).ext E2
  have pre3 : ∀ t, Steps p.tables e below (T2.setTop (mkF m 7 #[iv p0] [(.int p0), (.int (0 : Int32)), (.ref b2), (.ref b2)])) t → Steps p.tables e below (s₁.setTop (entryFrame m #[(.int p0)] 1)) t := by
    intro t kt
    refine pre1 _ ?_
    show Steps p.tables e below (s₁.setTop (mkF m 1 #[iv p0] [(.int (1 : Int32))])) _
    refine st2 _ ?_
    show Steps p.tables e below (T2.setTop (mkF m 3 #[iv p0] [(.ref b2)])) _
    refine XS.dup X2.here hx rfl (hb hby d4_3) rfl rfl ?_
    refine XS.iconst X2.here hx rfl (hb hby d4_4) ?_
    refine XS.iloadN X2.here hx rfl (hb hby d4_5) rfl ?_
    refine XS.i2b X2.here hx rfl (hb hby d4_6) rfl ?_
    show Steps p.tables e below (T2.setTop (mkF m 7 #[iv p0] [(.int (p0.toInt8.toInt32)), (.int (0 : Int32)), (.ref b2), (.ref b2)])) _
    rw [show (p0.toInt8.toInt32) = p0 from (own_b p0 hok_p0)]
    exact kt
  obtain ⟨cl4, Ar4, q4, S4, M4, H4, G4⟩ := id V_b2
  have hin4 : ¬ ((0 : Int32) < 0 ∨ cl4.slots.size ≤ ((0 : Int32)).toNatClampNeg) := inb_of S4 ⟨by decide, by decide⟩
  obtain ⟨T4, h4, X4, e4, W4, st4⟩ := stB X2 hx hZ e2 Ar4 (j := (0 : Int32)) hin4 (g := (mkF m 7 #[iv p0] [(.int p0), (.int (0 : Int32)), (.ref b2), (.ref b2)])) rfl rfl (hb hby d4_7)
  have nn4 : nar .byte p0 = p0 := (own_nrb p0 hok_p0)
  rw [nn4] at W4
  have V4 : Arv Z h4 b2 k2 .byte (1 : Int32) [(.int p0)] (.int (0 : Int32)) := Arv.set Ar4 q4 S4 M4 H4 G4 (own_fb nn4) W4 0 rfl (Nat.le_of_ble_eq_true rfl)
  have K4 : Keep h0 h4 [] := K2.wr W4 (Or.inr sz_b2)
  have N4 := Fr.snoc X4 N0 g_b2
  have pre5 : ∀ t, Steps p.tables e below (T4.setTop (mkF m 8 #[iv p0] [(.ref b2)])) t → Steps p.tables e below (s₁.setTop (entryFrame m #[(.int p0)] 1)) t := by
    intro t kt
    refine pre3 _ ?_
    show Steps p.tables e below (T2.setTop (mkF m 7 #[iv p0] [(.int p0), (.int (0 : Int32)), (.ref b2), (.ref b2)])) _
    refine st4 _ ?_
    exact kt
  obtain ⟨fs, hr, hrun, hended, hW, hsame⟩ := X4.leave (v := some (.ref b2)) (fun h => by rw [Bd.returns] at h; cases h)
  refine ⟨_, _, pre5 _ ?_, hrun, hended, _, _, rfl, ?_, ⟨_, rfl⟩, hW, hsame.mono (by decide) (by decide)⟩
  · show Steps p.tables e below (T4.setTop (mkF m 8 #[iv p0] [(.ref b2)])) _
    jvm_step X4.here [X4.here.top, hx, (hb hby d4_8), X4.method', Bd.returns, Value.isRef, FieldType.isReference]
    first | (intro acts; rw [hr _ acts rfl rfl rfl]) | rw [hr _ _ rfl rfl rfl]
    exact Steps.refl _
  · show Q4 Z p0 h0 n0 _ T4.heap _
    rw [e4]
    exact ⟨b2, k2, rfl, N4, K4, sz_b2, V4⟩
theorem pn2 : plainName "java/lang/String" = true := by first | (simp [plainName, overriddenIn]; done) | decide +kernel
theorem d5_0 : decode jdk_42_method_151_code 0 = .ok (.aload_n 0, 1) := by decide +kernel
theorem d5_1 : decode jdk_42_method_151_code 1 = .ok (.invokespecial 1, 3) := by decide +kernel
theorem d5_4 : decode jdk_42_method_151_code 4 = .ok (.aload_n 0, 1) := by decide +kernel
theorem d5_5 : decode jdk_42_method_151_code 5 = .ok (.aload_n 1, 1) := by decide +kernel
theorem d5_6 : decode jdk_42_method_151_code 6 = .ok (.putfield 9, 3) := by decide +kernel
theorem d5_9 : decode jdk_42_method_151_code 9 = .ok (.aload_n 0, 1) := by decide +kernel
theorem d5_10 : decode jdk_42_method_151_code 10 = .ok (.iload_n 2, 1) := by decide +kernel
theorem d5_11 : decode jdk_42_method_151_code 11 = .ok (.putfield 15, 3) := by decide +kernel
theorem d5_14 : decode jdk_42_method_151_code 14 = .ok (.return_, 1) := by decide +kernel
theorem ef_5 (m : MethodId) (x0 : Addr) (x1 : Addr) (x2 : Int32) : entryFrame m #[(.ref x0), (.ref x1), (.int x2)] 3 = mkF m 0 #[.val (.ref x0), .val (.ref x1), .val (.int x2)] [] := by first | (simp [entryFrame, mkF, argsToLocals, Value.category]; done) | rfl
def Q5 (Z : State) (r0 : Addr) (r1 : Addr) (h0 : Heap) (n0 : Nat) (v : Option Value) (h : Heap) (L : List Loc) : Prop := v = none ∧ Fr n0 L ∧ Keep h0 h [r0] ∧ Fld Z h r0 "java/lang/String" "value" "[B" (.ref r1) ∧ Fld Z h r0 "java/lang/String" "coder" "B" (.int (0 : Int32))
set_option maxRecDepth 65536 in
set_option maxHeartbeats 40000000 in
theorem rm5 (l : Launch) (Z : State) (a0 : Array Value) (hw : ∀ d ∈ tables_1, d.before a0 Z = true) (ws : List Jvm.Cond) (r0 : Addr) (r1 : Addr) (h0 : Heap) (n0 : Nat) (Z0 : n0 ≤ h0.size) (F_value_r0 : Fld Z h0 r0 "java/lang/String" "value" "[B" .null) (F_coder_r0 : Fld Z h0 r0 "java/lang/String" "coder" "B" (.int (0 : Int32))) (E_r0 : Exa Z h0 r0 "java/lang/String") (g_r0 : n0 ≤ r0) :
    MetFree l (⟨"java/lang/String", "<init>", "([BB)V"⟩ : MethodName) (head1 (Jvm.Cond.code (⟨"java/lang/String", "<init>", "([BB)V"⟩ : MethodName) jdk_42_method_151_code 3 none :: ws) ({ frames := 1, cells := 0, slots := 0, locals := 12 } : Room)) (fun a U => a = #[(.ref r0), (.ref r1), (.int (0 : Int32))] ∧ Z.Warmed39 U.vm ∧ U.heap = h0) (fun _ _ _ _ _ => True) (fun _ U o U' => ∃ v L, o = .returned v ∧ Q5 Z r0 r1 h0 n0 v U'.heap L ∧ FrameEnd U o U' L ({ frames := 1, cells := 0, slots := 0, locals := 12 } : Room).cells ({ frames := 1, cells := 0, slots := 0, locals := 12 } : Room).slots) := by
  refine MetFree.of_bodySF (plainFor_of_name pn2) hisR ?_
  intro p e s m args below meth c s₁ Bd hml0 hP hK
  obtain ⟨rfl, hZ, hh⟩ := hP
  have hx := Bd.exec
  have hby := Bd.bytes
  have hml : c.maxLocals = 3 := hml0
  have hown : s.vm.findClass "java/lang/String" = some m.cls := findClass_of_methodNamed Bd.named
  have hnm := (name_of_methodNamed Bd.named Bd.method).1
  have X0 : Stand p l e ({ frames := 1, cells := 0, slots := 0, locals := 12 } : Room) s m #[(.ref r0), (.ref r1), (.int (0 : Int32))] below meth c s₁ [] 0 0 := Stand.of_body Bd
  have e0 : s₁.heap = h0 := by rw [← hh, Bd.state]; rfl
  have N0 := Fr.nil n0
  have pre0 : ∀ t, Steps p.tables e below (s₁.setTop (mkF m 0 #[rv r0, rv r1, iv (0 : Int32)] [])) t → Steps p.tables e below (s₁.setTop (entryFrame m #[(.ref r0), (.ref r1), (.int (0 : Int32))] 3)) t := fun t k => castTop (ef_5 m r0 r1 (0 : Int32)) k
  have pre1 : ∀ t, Steps p.tables e below (s₁.setTop (mkF m 1 #[rv r0, rv r1, iv (0 : Int32)] [(.ref r0)])) t → Steps p.tables e below (s₁.setTop (entryFrame m #[(.ref r0), (.ref r1), (.int (0 : Int32))] 3)) t := by
    intro t kt
    refine pre0 _ ?_
    show Steps p.tables e below (s₁.setTop (mkF m 0 #[rv r0, rv r1, iv (0 : Int32)] [])) _
    refine XS.aloadN X0.here hx rfl (hb hby d5_0) rfl rfl ?_
    exact kt
  obtain ⟨T2, X2, e2, st2⟩ := initO X0 hx hZ hown (hw _ (List.mem_of_getElem? (i := 24) rfl)) (hw _ (List.mem_of_getElem? (i := 25) rfl)) (hw _ (List.mem_of_getElem? (i := 26) rfl)) e0 (g := (mkF m 1 #[rv r0, rv r1, iv (0 : Int32)] [(.ref r0)])) rfl (by rw [hml]; rfl) rfl (hb hby d5_1) (by decide) (W := 0) (by show 2 * 0 + _ ≤ _; exact Nat.le_of_eq rfl) (by decide)
  have pre3 : ∀ t, Steps p.tables e below (T2.setTop (mkF m 6 #[rv r0, rv r1, iv (0 : Int32)] [(.ref r1), (.ref r0)])) t → Steps p.tables e below (s₁.setTop (entryFrame m #[(.ref r0), (.ref r1), (.int (0 : Int32))] 3)) t := by
    intro t kt
    refine pre1 _ ?_
    show Steps p.tables e below (s₁.setTop (mkF m 1 #[rv r0, rv r1, iv (0 : Int32)] [(.ref r0)])) _
    refine st2 _ ?_
    show Steps p.tables e below (T2.setTop (mkF m 4 #[rv r0, rv r1, iv (0 : Int32)] [])) _
    refine XS.aloadN X2.here hx rfl (hb hby d5_4) rfl rfl ?_
    refine XS.aloadN X2.here hx rfl (hb hby d5_5) rfl rfl ?_
    exact kt
  obtain ⟨T4, h4, X4, e4, W4, st4⟩ := putF X2 hx hZ hown (host := "") (Or.inl (hw _ (List.mem_of_getElem? (i := 27) rfl))) Via.refl e2 F_value_r0 E_r0 (Or.inr ⟨(hw _ (List.mem_of_getElem? (i := 28) rfl)), rfl, hnm⟩) (hw _ (List.mem_of_getElem? (i := 15) rfl)) (ty := (.array .byte)) (by decide) rfl rfl (g := (mkF m 6 #[rv r0, rv r1, iv (0 : Int32)] [(.ref r1), (.ref r0)])) rfl rfl (hb hby d5_6)
  have Fw4 : Fld Z h4 r0 "java/lang/String" "value" "[B" (.ref r1) := F_value_r0.same W4
  have K4 : Keep h0 h4 [r0] := (Keep.refl h0 [r0]).wr W4 (Or.inl (List.mem_of_getElem? (i := 0) rfl))
  have N4 := Fr.snoc X4 N0 g_r0
  have pre5 : ∀ t, Steps p.tables e below (T4.setTop (mkF m 11 #[rv r0, rv r1, iv (0 : Int32)] [(.int (0 : Int32)), (.ref r0)])) t → Steps p.tables e below (s₁.setTop (entryFrame m #[(.ref r0), (.ref r1), (.int (0 : Int32))] 3)) t := by
    intro t kt
    refine pre3 _ ?_
    show Steps p.tables e below (T2.setTop (mkF m 6 #[rv r0, rv r1, iv (0 : Int32)] [(.ref r1), (.ref r0)])) _
    refine st4 _ ?_
    show Steps p.tables e below (T4.setTop (mkF m 9 #[rv r0, rv r1, iv (0 : Int32)] [])) _
    refine XS.aloadN X4.here hx rfl (hb hby d5_9) rfl rfl ?_
    refine XS.iloadN X4.here hx rfl (hb hby d5_10) rfl ?_
    exact kt
  obtain ⟨T6, h6, X6, e6, W6, st6⟩ := putFN X4 hx hZ hown (hw _ (List.mem_of_getElem? (i := 29) rfl)) Via.refl e4 (F_coder_r0.other W4 (Or.inr (slot_ne (Or.inr (hw _ (List.mem_of_getElem? (i := 30) rfl))) (Or.inr (hw _ (List.mem_of_getElem? (i := 28) rfl))) (by decide) (t := .byte) (t' := (.array .byte)) (by decide) (by decide)))) (E_r0.wr W4) (Or.inr ⟨(hw _ (List.mem_of_getElem? (i := 30) rfl)), rfl, hnm⟩) (hw _ (List.mem_of_getElem? (i := 15) rfl)) (ty := .byte) (v' := (.int (0 : Int32))) (by decide) rfl (by decide) (g := (mkF m 11 #[rv r0, rv r1, iv (0 : Int32)] [(.int (0 : Int32)), (.ref r0)])) rfl rfl (hb hby d5_11)
  have Fw6 : Fld Z h6 r0 "java/lang/String" "coder" "B" (.int (0 : Int32)) := (F_coder_r0.other W4 (Or.inr (slot_ne (Or.inr (hw _ (List.mem_of_getElem? (i := 30) rfl))) (Or.inr (hw _ (List.mem_of_getElem? (i := 28) rfl))) (by decide) (t := .byte) (t' := (.array .byte)) (by decide) (by decide)))).same W6
  have K6 : Keep h0 h6 [r0] := K4.wr W6 (Or.inl (List.mem_of_getElem? (i := 0) rfl))
  have N6 := Fr.snoc X6 N4 g_r0
  have pre7 : ∀ t, Steps p.tables e below (T6.setTop (mkF m 14 #[rv r0, rv r1, iv (0 : Int32)] [])) t → Steps p.tables e below (s₁.setTop (entryFrame m #[(.ref r0), (.ref r1), (.int (0 : Int32))] 3)) t := by
    intro t kt
    refine pre5 _ ?_
    show Steps p.tables e below (T4.setTop (mkF m 11 #[rv r0, rv r1, iv (0 : Int32)] [(.int (0 : Int32)), (.ref r0)])) _
    refine st6 _ ?_
    exact kt
  obtain ⟨fs, hr, hrun, hended, hW, hsame⟩ := X6.leave (v := none) (fun _ => rfl)
  refine ⟨_, _, pre7 _ ?_, hrun, hended, _, _, rfl, ?_, ⟨_, rfl⟩, hW, hsame.mono (by decide) (by decide)⟩
  · show Steps p.tables e below (T6.setTop (mkF m 14 #[rv r0, rv r1, iv (0 : Int32)] [])) _
    exact X6.returnOut hx Bd.returns (hb hby d5_14) hr
  · show Q5 Z r0 r1 h0 n0 _ T6.heap _
    rw [e6]
    exact ⟨rfl, N6, K6, (Fw4.other W6 (Or.inr (slot_ne (Or.inr (hw _ (List.mem_of_getElem? (i := 28) rfl))) (Or.inr (hw _ (List.mem_of_getElem? (i := 30) rfl))) (by decide) (t := (.array .byte)) (t' := .byte) (by decide) (by decide)))), Fw6⟩
theorem d2_0 : decode jdk_42_method_139_code 0 = .ok (.getstatic 38, 3) := by decide +kernel
theorem d2_3 : decode jdk_42_method_139_code 3 = .ok (.ifCond .eq 23, 3) := by decide +kernel
theorem d2_6 : decode jdk_42_method_139_code 6 = .ok (.iload_n 0, 1) := by decide +kernel
theorem pd3 : parseMethodDescriptor "(C)Z" = some ⟨[.char], some .boolean⟩ := by decide +kernel
theorem d2_7 : decode jdk_42_method_139_code 7 = .ok (.invokestatic 1015, 3) := by decide +kernel
theorem d2_10 : decode jdk_42_method_139_code 10 = .ok (.ifCond .eq 16, 3) := by decide +kernel
theorem d2_13 : decode jdk_42_method_139_code 13 = .ok (.new 10, 3) := by decide +kernel
theorem d2_16 : decode jdk_42_method_139_code 16 = .ok (.dup, 1) := by decide +kernel
theorem d2_17 : decode jdk_42_method_139_code 17 = .ok (.iload_n 0, 1) := by decide +kernel
theorem pd4 : parseMethodDescriptor "(C)[B" = some ⟨[.char], some (.array .byte)⟩ := by decide +kernel
theorem d2_18 : decode jdk_42_method_139_code 18 = .ok (.invokestatic 1018, 3) := by decide +kernel
theorem d2_21 : decode jdk_42_method_139_code 21 = .ok (.iconst 0, 1) := by decide +kernel
theorem pd5 : parseMethodDescriptor "([BB)V" = some ⟨[(.array .byte), .byte], none⟩ := by decide +kernel
theorem d2_22 : decode jdk_42_method_139_code 22 = .ok (.invokespecial 209, 3) := by decide +kernel
theorem d2_25 : decode jdk_42_method_139_code 25 = .ok (.areturn, 1) := by decide +kernel
theorem ef_2 (m : MethodId) (x0 : Int32) : entryFrame m #[(.int x0)] 1 = mkF m 0 #[.val (.int x0)] [] := by first | (simp [entryFrame, mkF, argsToLocals, Value.category]; done) | rfl
def Q2 (Z : State) (p0 : Int32) (cs : Int32) (h0 : Heap) (n0 : Nat) (v : Option Value) (h : Heap) (L : List Loc) : Prop := ∃ x y k, v = some (.ref x) ∧ Fr n0 L ∧ Keep h0 h [] ∧ h0.size ≤ x ∧ h0.size ≤ y ∧ Exa Z h x "java/lang/String" ∧ Fld Z h x "java/lang/String" "value" "[B" (.ref y) ∧ Fld Z h x "java/lang/String" "coder" "B" (.int (0 : Int32)) ∧ Arv Z h y k .byte (1 : Int32) [(.int p0)] (.int (0 : Int32))
set_option maxRecDepth 65536 in
set_option maxHeartbeats 40000000 in
theorem rm2 (l : Launch) (Z : State) (a0 : Array Value) (hw : ∀ d ∈ tables_1, d.before a0 Z = true) (ws : List Jvm.Cond) (p0 : Int32) (cs : Int32) (h0 : Heap) (n0 : Nat) (Z0 : n0 ≤ h0.size) (O0 : Old Z n0 h0) (S_cs : Sta Z Z.heap "java/lang/String" "COMPACT_STRINGS" "Z" (.int cs)) (hcs : ¬ (cs = (0 : Int32))) (hok_p0 : own_ok p0) :
    MetFree l (⟨"java/lang/String", "valueOf", "(C)Ljava/lang/String;"⟩ : MethodName) (head1 (Jvm.Cond.code (⟨"java/lang/String", "valueOf", "(C)Ljava/lang/String;"⟩ : MethodName) jdk_42_method_139_code 1 (some (.object "java/lang/String")) :: ws) ({ frames := 2, cells := 2, slots := 5, locals := 27 } : Room)) (fun a U => a = #[(.int p0)] ∧ Z.Warmed39 U.vm ∧ U.heap = h0) (fun _ _ _ _ _ => True) (fun _ U o U' => ∃ v L, o = .returned v ∧ Q2 Z p0 cs h0 n0 v U'.heap L ∧ FrameEnd U o U' L ({ frames := 2, cells := 2, slots := 5, locals := 27 } : Room).cells ({ frames := 2, cells := 2, slots := 5, locals := 27 } : Room).slots) := by
  refine MetFree.of_bodySF (plainFor_of_name pn2) hisR ?_
  intro p e s m args below meth c s₁ Bd hml0 hP hK
  obtain ⟨rfl, hZ, hh⟩ := hP
  have hx := Bd.exec
  have hby := Bd.bytes
  have hml : c.maxLocals = 1 := hml0
  have hown : s.vm.findClass "java/lang/String" = some m.cls := findClass_of_methodNamed Bd.named
  have hnm := (name_of_methodNamed Bd.named Bd.method).1
  have X0 : Stand p l e ({ frames := 2, cells := 2, slots := 5, locals := 27 } : Room) s m #[(.int p0)] below meth c s₁ [] 0 0 := Stand.of_body Bd
  have e0 : s₁.heap = h0 := by rw [← hh, Bd.state]; rfl
  have N0 := Fr.nil n0
  have pre0 : ∀ t, Steps p.tables e below (s₁.setTop (mkF m 0 #[iv p0] [])) t → Steps p.tables e below (s₁.setTop (entryFrame m #[(.int p0)] 1)) t := fun t k => castTop (ef_2 m p0) k
  obtain ⟨T1, X1, e1, st1⟩ := getS2 X0 hx hZ hown (host := "") (Or.inl (hw _ (List.mem_of_getElem? (i := 9) rfl))) Via.refl e0 (S_cs.ext (O0.keep (Keep.refl h0 []) all0).2) (g := (mkF m 0 #[iv p0] [])) rfl (hb hby d2_0)
  have pre3 : ∀ t, Steps p.tables e below (T1.setTop (mkF m 3 #[iv p0] [(.int cs)])) t → Steps p.tables e below (s₁.setTop (entryFrame m #[(.int p0)] 1)) t := by
    intro t kt
    refine pre0 _ ?_
    show Steps p.tables e below (s₁.setTop (mkF m 0 #[iv p0] [])) _
    refine st1 _ ?_
    exact kt
  have hc3_2 : ¬ (cs = (0 : Int32)) := hcs
  have pre4 : ∀ t, Steps p.tables e below (T1.setTop (mkF m 7 #[iv p0] [(.int p0)])) t → Steps p.tables e below (s₁.setTop (entryFrame m #[(.int p0)] 1)) t := by
    intro t kt
    refine pre3 _ ?_
    show Steps p.tables e below (T1.setTop (mkF m 3 #[iv p0] [(.int cs)])) _
    refine XS.ifNo X1.here hx rfl (hb hby d2_3) rfl ((if0 _ _).trans (feq hc3_2).1) ?_
    refine XS.iloadN X1.here hx rfl (hb hby d2_6) rfl ?_
    exact kt
  obtain ⟨_, _, ⟨T5, L5, k5, n5⟩, -, X5, ⟨Lc5, hQ5, l5, y5, z5⟩, st5⟩ := Jvm.LawKit.callS X1 hx (y := (⟨"java/lang/StringLatin1", "canEncode", "(C)Z"⟩ : MethodName)) hown (mvT hZ (hw _ (List.mem_of_getElem? (i := 10) rfl))) (mvT hZ (hw _ (List.mem_of_getElem? (i := 11) rfl))) (mvT hZ (hw _ (List.mem_of_getElem? (i := 12) rfl))) (mvT hZ (hw _ (List.mem_of_getElem? (i := 13) rfl))) (by decide) (backOf (W := 0) (rm3 l Z a0 hw [] p0 h0 n0 (Nat.le_trans Z0 (Keep.refl h0 []).1) hok_p0) hZ (hw _ (List.mem_of_getElem? (i := 13) rfl)) (hw _ (List.mem_of_getElem? (i := 12) rfl)) (by decide) (by decide)) (g := (mkF m 7 #[iv p0] [(.int p0)])) rfl (by rw [hml]; rfl) (argsL := [(.int p0)]) (rest := []) (lenOf pd3 rfl) rfl (by show 2 * 0 + _ ≤ _; exact Nat.le_of_eq rfl) (hb hby d2_7) (fun _ _ => ⟨rfl, e1, (by decide : 0 + 0 ≤ _), (by decide : 0 + 0 ≤ _)⟩)
  dsimp only [Pt.U, Pt.locs, Pt.cells, Pt.slots] at X5 l5 y5 z5 st5 hQ5
  subst l5 y5 z5
  obtain ⟨rfl, N5q, hh5⟩ := hQ5
  have N5 := Fr.app N0 N5q
  have pre6 : ∀ t, Steps p.tables e below (T5.setTop (mkF m 13 #[iv p0] [])) t → Steps p.tables e below (s₁.setTop (entryFrame m #[(.int p0)] 1)) t := by
    intro t kt
    refine pre4 _ ?_
    show Steps p.tables e below (T1.setTop (mkF m 7 #[iv p0] [(.int p0)])) _
    refine st5 _ ?_
    show Steps p.tables e below (T5.setTop (mkF m 10 #[iv p0] [(.int (1 : Int32))])) _
    refine XS.ifNo X5.here hx rfl (hb hby d2_10) rfl ((if0 _ _).trans (feq (by decide)).1) ?_
    exact kt
  obtain ⟨T7, h7, X7, e7, E7, A7, D7, -, st7⟩ := newO X5 hx hZ hown (hw _ (List.mem_of_getElem? (i := 14) rfl)) (hw _ (List.mem_of_getElem? (i := 15) rfl)) (hw _ (List.mem_of_getElem? (i := 7) rfl)) hh5 (g := (mkF m 13 #[iv p0] [])) rfl (hb hby d2_13) (by decide) (by decide)
  obtain ⟨b7, g7⟩ : ∃ z, z = h0.size := ⟨_, rfl⟩
  rw [← g7] at A7 D7 st7
  have g_b7 : n0 ≤ b7 := Nat.le_trans (Nat.le_trans Z0 (Keep.refl h0 []).1) (Nat.le_of_eq g7.symm)
  have sz_b7 : h0.size ≤ b7 := Nat.le_trans (Keep.refl h0 []).1 (Nat.le_of_eq g7.symm)
  have F_value_b7 : Fld Z h7 b7 "java/lang/String" "value" "[B" .null := D7 (Or.inr (hw _ (List.mem_of_getElem? (i := 28) rfl))) (ty := (.array .byte)) (by decide)
  have F_coder_b7 : Fld Z h7 b7 "java/lang/String" "coder" "B" (.int (0 : Int32)) := D7 (Or.inr (hw _ (List.mem_of_getElem? (i := 30) rfl))) (ty := .byte) (by decide)
  have K7 : Keep h0 h7 [] := (Keep.refl h0 []).ext E7
  have pre8 : ∀ t, Steps p.tables e below (T7.setTop (mkF m 18 #[iv p0] [(.int p0), (.ref b7), (.ref b7)])) t → Steps p.tables e below (s₁.setTop (entryFrame m #[(.int p0)] 1)) t := by
    intro t kt
    refine pre6 _ ?_
    show Steps p.tables e below (T5.setTop (mkF m 13 #[iv p0] [])) _
    refine st7 _ ?_
    show Steps p.tables e below (T7.setTop (mkF m 16 #[iv p0] [(.ref b7)])) _
    refine XS.dup X7.here hx rfl (hb hby d2_16) rfl rfl ?_
    refine XS.iloadN X7.here hx rfl (hb hby d2_17) rfl ?_
    exact kt
  obtain ⟨_, _, ⟨T9, L9, k9, n9⟩, -, X9, ⟨Lc9, hQ9, l9, y9, z9⟩, st9⟩ := Jvm.LawKit.callS X7 hx (y := (⟨"java/lang/StringLatin1", "toBytes", "(C)[B"⟩ : MethodName)) hown (mvT hZ (hw _ (List.mem_of_getElem? (i := 16) rfl))) (mvT hZ (hw _ (List.mem_of_getElem? (i := 17) rfl))) (mvT hZ (hw _ (List.mem_of_getElem? (i := 12) rfl))) (mvT hZ (hw _ (List.mem_of_getElem? (i := 18) rfl))) (by decide) (backOf (W := 2) (rm4 l Z a0 hw [] p0 h7 n0 (Nat.le_trans Z0 K7.1) hok_p0) hZ (hw _ (List.mem_of_getElem? (i := 18) rfl)) (hw _ (List.mem_of_getElem? (i := 12) rfl)) (by decide) (by decide)) (g := (mkF m 18 #[iv p0] [(.int p0), (.ref b7), (.ref b7)])) rfl (by rw [hml]; rfl) (argsL := [(.int p0)]) (rest := [(.ref b7), (.ref b7)]) (lenOf pd4 rfl) rfl (by show 2 * 0 + _ ≤ _; exact Nat.le_of_eq rfl) (hb hby d2_18) (fun _ _ => ⟨rfl, e7, (by decide : 1 + 1 ≤ _), (by decide : 4 + 1 ≤ _)⟩)
  dsimp only [Pt.U, Pt.locs, Pt.cells, Pt.slots] at X9 l9 y9 z9 st9 hQ9
  subst l9 y9 z9
  obtain ⟨y9, ky9, rfl, N9q, Kc9, hy9, Vy9⟩ := hQ9
  have N9 := Fr.app N5 N9q
  have K9 : Keep h0 T9.heap [] := K7.trans Kc9 all0
  have g_y9 : n0 ≤ y9 := Nat.le_trans (Nat.le_trans Z0 K7.1) hy9
  have sz_y9 : h0.size ≤ y9 := Nat.le_trans K7.1 hy9
  have ne_9 : b7 ≠ y9 := Nat.ne_of_lt (Nat.lt_of_lt_of_le A7.lt hy9)
  have pre10 : ∀ t, Steps p.tables e below (T9.setTop (mkF m 22 #[iv p0] [(.int (0 : Int32)), (.ref y9), (.ref b7), (.ref b7)])) t → Steps p.tables e below (s₁.setTop (entryFrame m #[(.int p0)] 1)) t := by
    intro t kt
    refine pre8 _ ?_
    show Steps p.tables e below (T7.setTop (mkF m 18 #[iv p0] [(.int p0), (.ref b7), (.ref b7)])) _
    refine st9 _ ?_
    show Steps p.tables e below (T9.setTop (mkF m 21 #[iv p0] [(.ref y9), (.ref b7), (.ref b7)])) _
    refine XS.iconst X9.here hx rfl (hb hby d2_21) ?_
    exact kt
  obtain ⟨_, _, ⟨T11, L11, k11, n11⟩, -, X11, ⟨Lc11, hQ11, l11, y11, z11⟩, st11⟩ := X9.specialBack hx (y := (⟨"java/lang/String", "<init>", "([BB)V"⟩ : MethodName)) rfl hown (mvT hZ (hw _ (List.mem_of_getElem? (i := 20) rfl))) (mvT hZ (hw _ (List.mem_of_getElem? (i := 21) rfl))) (mvT hZ (hw _ (List.mem_of_getElem? (i := 23) rfl))) (by decide) (backOf (W := 1) (rm5 l Z a0 hw [] b7 y9 T9.heap n0 (Nat.le_trans Z0 K9.1) (F_value_b7.keep Kc9 nin0) (F_coder_b7.keep Kc9 nin0) (A7.keep Kc9) g_b7) hZ (hw _ (List.mem_of_getElem? (i := 23) rfl)) (hw _ (List.mem_of_getElem? (i := 7) rfl)) (by decide) (by decide)) (g := (mkF m 22 #[iv p0] [(.int (0 : Int32)), (.ref y9), (.ref b7), (.ref b7)])) rfl (by rw [hml]; rfl) (Steps.refl _) (a := b7) (argsL := [(.ref y9), (.int (0 : Int32))]) (rest := [(.ref b7)]) (lenOf pd5 rfl) rfl (by show 2 * 0 + _ ≤ _; exact Nat.le_of_eq rfl) (hb hby d2_22) (fun _ _ => ⟨rfl, rfl, (by decide : 2 + 0 ≤ _), (by decide : 5 + 0 ≤ _)⟩)
  dsimp only [Pt.U, Pt.locs, Pt.cells, Pt.slots] at X11 l11 y11 z11 st11 hQ11
  subst l11 y11 z11
  obtain ⟨rfl, N11q, Kc11, Fv11, Fc11⟩ := hQ11
  have N11 := Fr.app N9 N11q
  have K11 : Keep h0 T11.heap [] := K9.trans Kc11 (allS (Or.inr sz_b7) all0)
  have pre12 : ∀ t, Steps p.tables e below (T11.setTop (mkF m 25 #[iv p0] [(.ref b7)])) t → Steps p.tables e below (s₁.setTop (entryFrame m #[(.int p0)] 1)) t := by
    intro t kt
    refine pre10 _ ?_
    show Steps p.tables e below (T9.setTop (mkF m 22 #[iv p0] [(.int (0 : Int32)), (.ref y9), (.ref b7), (.ref b7)])) _
    refine st11.trans ?_
    exact kt
  obtain ⟨fs, hr, hrun, hended, hW, hsame⟩ := X11.leave (v := some (.ref b7)) (fun h => by rw [Bd.returns] at h; cases h)
  refine ⟨_, _, pre12 _ ?_, hrun, hended, _, _, rfl, ?_, ⟨_, rfl⟩, hW, hsame.mono (by decide) (by decide)⟩
  · show Steps p.tables e below (T11.setTop (mkF m 25 #[iv p0] [(.ref b7)])) _
    jvm_step X11.here [X11.here.top, hx, (hb hby d2_25), X11.method', Bd.returns, Value.isRef, FieldType.isReference]
    first | (intro acts; rw [hr _ acts rfl rfl rfl]) | rw [hr _ _ rfl rfl rfl]
    exact Steps.refl _
  · show Q2 Z p0 cs h0 n0 _ T11.heap _
    exact ⟨b7, y9, ky9, rfl, N11, K11, sz_b7, sz_y9, ((A7.keep Kc9).keep Kc11), Fv11, Fc11, (Vy9.keep Kc11 (ninS (Ne.symm ne_9) nin0))⟩
theorem d10_0 : decode jdk_42_method_126_code 0 = .ok (.aload_n 0, 1) := by decide +kernel
theorem d10_1 : decode jdk_42_method_126_code 1 = .ok (.areturn, 1) := by decide +kernel
theorem ef_10 (m : MethodId) (x0 : Addr) : entryFrame m #[(.ref x0)] 1 = mkF m 0 #[.val (.ref x0)] [] := by first | (simp [entryFrame, mkF, argsToLocals, Value.category]; done) | rfl
def Q10 (Z : State) (r0 : Addr) (h0 : Heap) (n0 : Nat) (v : Option Value) (h : Heap) (L : List Loc) : Prop := v = some (.ref r0) ∧ Fr n0 L ∧ h = h0
set_option maxRecDepth 65536 in
set_option maxHeartbeats 40000000 in
theorem rm10 (l : Launch) (Z : State) (a0 : Array Value) (hw : ∀ d ∈ tables_1, d.before a0 Z = true) (ws : List Jvm.Cond) (r0 : Addr) (h0 : Heap) (n0 : Nat) (Z0 : n0 ≤ h0.size) :
    MetFree l (⟨"java/lang/String", "toString", "()Ljava/lang/String;"⟩ : MethodName) (head1 (Jvm.Cond.code (⟨"java/lang/String", "toString", "()Ljava/lang/String;"⟩ : MethodName) jdk_42_method_126_code 1 (some (.object "java/lang/String")) :: ws) ({ frames := 0, cells := 0, slots := 0, locals := 0 } : Room)) (fun a U => a = #[(.ref r0)] ∧ Z.Warmed39 U.vm ∧ U.heap = h0) (fun _ _ _ _ _ => True) (fun _ U o U' => ∃ v L, o = .returned v ∧ Q10 Z r0 h0 n0 v U'.heap L ∧ FrameEnd U o U' L ({ frames := 0, cells := 0, slots := 0, locals := 0 } : Room).cells ({ frames := 0, cells := 0, slots := 0, locals := 0 } : Room).slots) := by
  refine MetFree.of_bodySF (plainFor_of_name pn2) hisR ?_
  intro p e s m args below meth c s₁ Bd hml0 hP hK
  obtain ⟨rfl, hZ, hh⟩ := hP
  have hx := Bd.exec
  have hby := Bd.bytes
  have hml : c.maxLocals = 1 := hml0
  have hown : s.vm.findClass "java/lang/String" = some m.cls := findClass_of_methodNamed Bd.named
  have hnm := (name_of_methodNamed Bd.named Bd.method).1
  have X0 : Stand p l e ({ frames := 0, cells := 0, slots := 0, locals := 0 } : Room) s m #[(.ref r0)] below meth c s₁ [] 0 0 := Stand.of_body Bd
  have e0 : s₁.heap = h0 := by rw [← hh, Bd.state]; rfl
  have N0 := Fr.nil n0
  have pre0 : ∀ t, Steps p.tables e below (s₁.setTop (mkF m 0 #[rv r0] [])) t → Steps p.tables e below (s₁.setTop (entryFrame m #[(.ref r0)] 1)) t := fun t k => castTop (ef_10 m r0) k
  have pre1 : ∀ t, Steps p.tables e below (s₁.setTop (mkF m 1 #[rv r0] [(.ref r0)])) t → Steps p.tables e below (s₁.setTop (entryFrame m #[(.ref r0)] 1)) t := by
    intro t kt
    refine pre0 _ ?_
    show Steps p.tables e below (s₁.setTop (mkF m 0 #[rv r0] [])) _
    refine XS.aloadN X0.here hx rfl (hb hby d10_0) rfl rfl ?_
    exact kt
  obtain ⟨fs, hr, hrun, hended, hW, hsame⟩ := X0.leave (v := some (.ref r0)) (fun h => by rw [Bd.returns] at h; cases h)
  refine ⟨_, _, pre1 _ ?_, hrun, hended, _, _, rfl, ?_, ⟨_, rfl⟩, hW, hsame.mono (by decide) (by decide)⟩
  · show Steps p.tables e below (s₁.setTop (mkF m 1 #[rv r0] [(.ref r0)])) _
    jvm_step X0.here [X0.here.top, hx, (hb hby d10_1), X0.method', Bd.returns, Value.isRef, FieldType.isReference]
    first | (intro acts; rw [hr _ acts rfl rfl rfl]) | rw [hr _ _ rfl rfl rfl]
    exact Steps.refl _
  · show Q10 Z r0 h0 n0 _ s₁.heap _
    rw [e0]
    exact ⟨rfl, N0, rfl⟩
theorem d12_0 : decode jdk_42_method_152_code 0 = .ok (.getstatic 38, 3) := by decide +kernel
theorem d12_3 : decode jdk_42_method_152_code 3 = .ok (.ifCond .eq 10, 3) := by decide +kernel
theorem d12_6 : decode jdk_42_method_152_code 6 = .ok (.aload_n 0, 1) := by decide +kernel
theorem d12_7 : decode jdk_42_method_152_code 7 = .ok (.getfield 15, 3) := by decide +kernel
theorem d12_10 : decode jdk_42_method_152_code 10 = .ok (.goto 4, 3) := by decide +kernel
theorem d12_14 : decode jdk_42_method_152_code 14 = .ok (.ireturn, 1) := by decide +kernel
theorem ef_12 (m : MethodId) (x0 : Addr) : entryFrame m #[(.ref x0)] 1 = mkF m 0 #[.val (.ref x0)] [] := by first | (simp [entryFrame, mkF, argsToLocals, Value.category]; done) | rfl
def Q12 (Z : State) (r0 : Addr) (va : Addr) (cs : Int32) (h0 : Heap) (n0 : Nat) (v : Option Value) (h : Heap) (L : List Loc) : Prop := v = some (.int (0 : Int32)) ∧ Fr n0 L ∧ h = h0
set_option maxRecDepth 65536 in
set_option maxHeartbeats 40000000 in
theorem rm12 (l : Launch) (Z : State) (a0 : Array Value) (hw : ∀ d ∈ tables_1, d.before a0 Z = true) (ws : List Jvm.Cond) (r0 : Addr) (va : Addr) (cs : Int32) (h0 : Heap) (n0 : Nat) (Z0 : n0 ≤ h0.size) (O0 : Old Z n0 h0) (S_cs : Sta Z Z.heap "java/lang/String" "COMPACT_STRINGS" "Z" (.int cs)) (hcs : ¬ (cs = (0 : Int32))) (F_value_r0 : Fld Z h0 r0 "java/lang/String" "value" "[B" (.ref va)) (F_coder_r0 : Fld Z h0 r0 "java/lang/String" "coder" "B" (.int (0 : Int32))) (E_r0 : Exa Z h0 r0 "java/lang/String") :
    MetFree l (⟨"java/lang/String", "coder", "()B"⟩ : MethodName) (head1 (Jvm.Cond.code (⟨"java/lang/String", "coder", "()B"⟩ : MethodName) jdk_42_method_152_code 1 (some .byte) :: ws) ({ frames := 0, cells := 0, slots := 0, locals := 0 } : Room)) (fun a U => a = #[(.ref r0)] ∧ Z.Warmed39 U.vm ∧ U.heap = h0) (fun _ _ _ _ _ => True) (fun _ U o U' => ∃ v L, o = .returned v ∧ Q12 Z r0 va cs h0 n0 v U'.heap L ∧ FrameEnd U o U' L ({ frames := 0, cells := 0, slots := 0, locals := 0 } : Room).cells ({ frames := 0, cells := 0, slots := 0, locals := 0 } : Room).slots) := by
  refine MetFree.of_bodySF (plainFor_of_name pn2) hisR ?_
  intro p e s m args below meth c s₁ Bd hml0 hP hK
  obtain ⟨rfl, hZ, hh⟩ := hP
  have hx := Bd.exec
  have hby := Bd.bytes
  have hml : c.maxLocals = 1 := hml0
  have hown : s.vm.findClass "java/lang/String" = some m.cls := findClass_of_methodNamed Bd.named
  have hnm := (name_of_methodNamed Bd.named Bd.method).1
  have X0 : Stand p l e ({ frames := 0, cells := 0, slots := 0, locals := 0 } : Room) s m #[(.ref r0)] below meth c s₁ [] 0 0 := Stand.of_body Bd
  have e0 : s₁.heap = h0 := by rw [← hh, Bd.state]; rfl
  have N0 := Fr.nil n0
  have pre0 : ∀ t, Steps p.tables e below (s₁.setTop (mkF m 0 #[rv r0] [])) t → Steps p.tables e below (s₁.setTop (entryFrame m #[(.ref r0)] 1)) t := fun t k => castTop (ef_12 m r0) k
  obtain ⟨T1, X1, e1, st1⟩ := getS2 X0 hx hZ hown (host := "") (Or.inl (hw _ (List.mem_of_getElem? (i := 9) rfl))) Via.refl e0 (S_cs.ext (O0.keep (Keep.refl h0 []) all0).2) (g := (mkF m 0 #[rv r0] [])) rfl (hb hby d12_0)
  have pre3 : ∀ t, Steps p.tables e below (T1.setTop (mkF m 3 #[rv r0] [(.int cs)])) t → Steps p.tables e below (s₁.setTop (entryFrame m #[(.ref r0)] 1)) t := by
    intro t kt
    refine pre0 _ ?_
    show Steps p.tables e below (s₁.setTop (mkF m 0 #[rv r0] [])) _
    refine st1 _ ?_
    exact kt
  have hc3_2 : ¬ (cs = (0 : Int32)) := hcs
  have pre4 : ∀ t, Steps p.tables e below (T1.setTop (mkF m 7 #[rv r0] [(.ref r0)])) t → Steps p.tables e below (s₁.setTop (entryFrame m #[(.ref r0)] 1)) t := by
    intro t kt
    refine pre3 _ ?_
    show Steps p.tables e below (T1.setTop (mkF m 3 #[rv r0] [(.int cs)])) _
    refine XS.ifNo X1.here hx rfl (hb hby d12_3) rfl ((if0 _ _).trans (feq hc3_2).1) ?_
    refine XS.aloadN X1.here hx rfl (hb hby d12_6) rfl rfl ?_
    exact kt
  obtain ⟨T5, X5, e5, st5⟩ := getF X1 hx hZ hown (host := "") (Or.inl (hw _ (List.mem_of_getElem? (i := 29) rfl))) Via.refl e1 F_coder_r0 (g := (mkF m 7 #[rv r0] [(.ref r0)])) rfl rfl (hb hby d12_7)
  have pre6 : ∀ t, Steps p.tables e below (T5.setTop (mkF m 14 #[rv r0] [(.int (0 : Int32))])) t → Steps p.tables e below (s₁.setTop (entryFrame m #[(.ref r0)] 1)) t := by
    intro t kt
    refine pre4 _ ?_
    show Steps p.tables e below (T1.setTop (mkF m 7 #[rv r0] [(.ref r0)])) _
    refine st5 _ ?_
    show Steps p.tables e below (T5.setTop (mkF m 10 #[rv r0] [(.int (0 : Int32))])) _
    refine XS.goto X5.here hx rfl (pc0 := 10) (pc' := 14) rfl (hb hby d12_10) (by decide) (by decide) ?_
    exact kt
  obtain ⟨fs, hr, hrun, hended, hW, hsame⟩ := X5.leave (v := some (.int (0 : Int32))) (fun h => by rw [Bd.returns] at h; cases h)
  refine ⟨_, _, pre6 _ ?_, hrun, hended, _, _, rfl, ?_, ⟨_, rfl⟩, hW, hsame.mono (by decide) (by decide)⟩
  · show Steps p.tables e below (T5.setTop (mkF m 14 #[rv r0] [(.int (0 : Int32))])) _
    exact retN X5 hx (t := .byte) Bd.returns (by simp) (hb hby d12_14) hr
  · show Q12 Z r0 va cs h0 n0 _ T5.heap _
    rw [e5]
    exact ⟨rfl, N0, rfl⟩
theorem d13_0 : decode jdk_42_method_154_code 0 = .ok (.getstatic 38, 3) := by decide +kernel
theorem d13_3 : decode jdk_42_method_154_code 3 = .ok (.ifCond .eq 14, 3) := by decide +kernel
theorem d13_6 : decode jdk_42_method_154_code 6 = .ok (.aload_n 0, 1) := by decide +kernel
theorem d13_7 : decode jdk_42_method_154_code 7 = .ok (.getfield 15, 3) := by decide +kernel
theorem d13_10 : decode jdk_42_method_154_code 10 = .ok (.ifCond .ne 7, 3) := by decide +kernel
theorem d13_13 : decode jdk_42_method_154_code 13 = .ok (.iconst 1, 1) := by decide +kernel
theorem d13_14 : decode jdk_42_method_154_code 14 = .ok (.goto 4, 3) := by decide +kernel
theorem d13_18 : decode jdk_42_method_154_code 18 = .ok (.ireturn, 1) := by decide +kernel
theorem ef_13 (m : MethodId) (x0 : Addr) : entryFrame m #[(.ref x0)] 1 = mkF m 0 #[.val (.ref x0)] [] := by first | (simp [entryFrame, mkF, argsToLocals, Value.category]; done) | rfl
def Q13 (Z : State) (r0 : Addr) (va : Addr) (cs : Int32) (h0 : Heap) (n0 : Nat) (v : Option Value) (h : Heap) (L : List Loc) : Prop := v = some (.int (1 : Int32)) ∧ Fr n0 L ∧ h = h0
set_option maxRecDepth 65536 in
set_option maxHeartbeats 40000000 in
theorem rm13 (l : Launch) (Z : State) (a0 : Array Value) (hw : ∀ d ∈ tables_1, d.before a0 Z = true) (ws : List Jvm.Cond) (r0 : Addr) (va : Addr) (cs : Int32) (h0 : Heap) (n0 : Nat) (Z0 : n0 ≤ h0.size) (O0 : Old Z n0 h0) (S_cs : Sta Z Z.heap "java/lang/String" "COMPACT_STRINGS" "Z" (.int cs)) (hcs : ¬ (cs = (0 : Int32))) (F_value_r0 : Fld Z h0 r0 "java/lang/String" "value" "[B" (.ref va)) (F_coder_r0 : Fld Z h0 r0 "java/lang/String" "coder" "B" (.int (0 : Int32))) (E_r0 : Exa Z h0 r0 "java/lang/String") :
    MetFree l (⟨"java/lang/String", "isLatin1", "()Z"⟩ : MethodName) (head1 (Jvm.Cond.code (⟨"java/lang/String", "isLatin1", "()Z"⟩ : MethodName) jdk_42_method_154_code 1 (some .boolean) :: ws) ({ frames := 0, cells := 0, slots := 0, locals := 0 } : Room)) (fun a U => a = #[(.ref r0)] ∧ Z.Warmed39 U.vm ∧ U.heap = h0) (fun _ _ _ _ _ => True) (fun _ U o U' => ∃ v L, o = .returned v ∧ Q13 Z r0 va cs h0 n0 v U'.heap L ∧ FrameEnd U o U' L ({ frames := 0, cells := 0, slots := 0, locals := 0 } : Room).cells ({ frames := 0, cells := 0, slots := 0, locals := 0 } : Room).slots) := by
  refine MetFree.of_bodySF (plainFor_of_name pn2) hisR ?_
  intro p e s m args below meth c s₁ Bd hml0 hP hK
  obtain ⟨rfl, hZ, hh⟩ := hP
  have hx := Bd.exec
  have hby := Bd.bytes
  have hml : c.maxLocals = 1 := hml0
  have hown : s.vm.findClass "java/lang/String" = some m.cls := findClass_of_methodNamed Bd.named
  have hnm := (name_of_methodNamed Bd.named Bd.method).1
  have X0 : Stand p l e ({ frames := 0, cells := 0, slots := 0, locals := 0 } : Room) s m #[(.ref r0)] below meth c s₁ [] 0 0 := Stand.of_body Bd
  have e0 : s₁.heap = h0 := by rw [← hh, Bd.state]; rfl
  have N0 := Fr.nil n0
  have pre0 : ∀ t, Steps p.tables e below (s₁.setTop (mkF m 0 #[rv r0] [])) t → Steps p.tables e below (s₁.setTop (entryFrame m #[(.ref r0)] 1)) t := fun t k => castTop (ef_13 m r0) k
  obtain ⟨T1, X1, e1, st1⟩ := getS2 X0 hx hZ hown (host := "") (Or.inl (hw _ (List.mem_of_getElem? (i := 9) rfl))) Via.refl e0 (S_cs.ext (O0.keep (Keep.refl h0 []) all0).2) (g := (mkF m 0 #[rv r0] [])) rfl (hb hby d13_0)
  have pre3 : ∀ t, Steps p.tables e below (T1.setTop (mkF m 3 #[rv r0] [(.int cs)])) t → Steps p.tables e below (s₁.setTop (entryFrame m #[(.ref r0)] 1)) t := by
    intro t kt
    refine pre0 _ ?_
    show Steps p.tables e below (s₁.setTop (mkF m 0 #[rv r0] [])) _
    refine st1 _ ?_
    exact kt
  have hc3_2 : ¬ (cs = (0 : Int32)) := hcs
  have pre4 : ∀ t, Steps p.tables e below (T1.setTop (mkF m 7 #[rv r0] [(.ref r0)])) t → Steps p.tables e below (s₁.setTop (entryFrame m #[(.ref r0)] 1)) t := by
    intro t kt
    refine pre3 _ ?_
    show Steps p.tables e below (T1.setTop (mkF m 3 #[rv r0] [(.int cs)])) _
    refine XS.ifNo X1.here hx rfl (hb hby d13_3) rfl ((if0 _ _).trans (feq hc3_2).1) ?_
    refine XS.aloadN X1.here hx rfl (hb hby d13_6) rfl rfl ?_
    exact kt
  obtain ⟨T5, X5, e5, st5⟩ := getF X1 hx hZ hown (host := "") (Or.inl (hw _ (List.mem_of_getElem? (i := 29) rfl))) Via.refl e1 F_coder_r0 (g := (mkF m 7 #[rv r0] [(.ref r0)])) rfl rfl (hb hby d13_7)
  have pre6 : ∀ t, Steps p.tables e below (T5.setTop (mkF m 18 #[rv r0] [(.int (1 : Int32))])) t → Steps p.tables e below (s₁.setTop (entryFrame m #[(.ref r0)] 1)) t := by
    intro t kt
    refine pre4 _ ?_
    show Steps p.tables e below (T1.setTop (mkF m 7 #[rv r0] [(.ref r0)])) _
    refine st5 _ ?_
    show Steps p.tables e below (T5.setTop (mkF m 10 #[rv r0] [(.int (0 : Int32))])) _
    refine XS.ifNo X5.here hx rfl (hb hby d13_10) rfl ((if0 _ _).trans (teq (by decide)).2) ?_
    refine XS.iconst X5.here hx rfl (hb hby d13_13) ?_
    refine XS.goto X5.here hx rfl (pc0 := 14) (pc' := 18) rfl (hb hby d13_14) (by decide) (by decide) ?_
    exact kt
  obtain ⟨fs, hr, hrun, hended, hW, hsame⟩ := X5.leave (v := some (.int (1 : Int32))) (fun h => by rw [Bd.returns] at h; cases h)
  refine ⟨_, _, pre6 _ ?_, hrun, hended, _, _, rfl, ?_, ⟨_, rfl⟩, hW, hsame.mono (by decide) (by decide)⟩
  · show Steps p.tables e below (T5.setTop (mkF m 18 #[rv r0] [(.int (1 : Int32))])) _
    exact retN X5 hx (t := .boolean) Bd.returns (by simp) (hb hby d13_18) hr
  · show Q13 Z r0 va cs h0 n0 _ T5.heap _
    rw [e5]
    exact ⟨rfl, N0, rfl⟩
theorem d19_0 : decode jdk_42_method_54_code 0 = .ok (.aload_n 0, 1) := by decide +kernel
theorem d19_1 : decode jdk_42_method_54_code 1 = .ok (.getfield 9, 3) := by decide +kernel
theorem d19_4 : decode jdk_42_method_54_code 4 = .ok (.arraylength, 1) := by decide +kernel
theorem d19_5 : decode jdk_42_method_54_code 5 = .ok (.aload_n 0, 1) := by decide +kernel
theorem pd6 : parseMethodDescriptor "()B" = some ⟨[], some .byte⟩ := by decide +kernel
theorem d19_6 : decode jdk_42_method_54_code 6 = .ok (.invokevirtual 335, 3) := by decide +kernel
theorem d19_9 : decode jdk_42_method_54_code 9 = .ok (.ishr, 1) := by decide +kernel
theorem d19_10 : decode jdk_42_method_54_code 10 = .ok (.ireturn, 1) := by decide +kernel
theorem ef_19 (m : MethodId) (x0 : Addr) : entryFrame m #[(.ref x0)] 1 = mkF m 0 #[.val (.ref x0)] [] := by first | (simp [entryFrame, mkF, argsToLocals, Value.category]; done) | rfl
def Q19 (Z : State) (r0 : Addr) (va : Addr) (kc : ClassId) (ch : Int32) (cs : Int32) (h0 : Heap) (n0 : Nat) (v : Option Value) (h : Heap) (L : List Loc) : Prop := v = some (.int (1 : Int32)) ∧ Fr n0 L ∧ h = h0
set_option maxRecDepth 65536 in
set_option maxHeartbeats 40000000 in
theorem rm19 (l : Launch) (Z : State) (a0 : Array Value) (hw : ∀ d ∈ tables_1, d.before a0 Z = true) (ws : List Jvm.Cond) (r0 : Addr) (va : Addr) (kc : ClassId) (ch : Int32) (cs : Int32) (h0 : Heap) (n0 : Nat) (Z0 : n0 ≤ h0.size) (F_value_r0 : Fld Z h0 r0 "java/lang/String" "value" "[B" (.ref va)) (F_coder_r0 : Fld Z h0 r0 "java/lang/String" "coder" "B" (.int (0 : Int32))) (E_r0 : Exa Z h0 r0 "java/lang/String") (V_va : Arv Z h0 va kc .byte (1 : Int32) [(.int ch)] (.int (0 : Int32))) (O0 : Old Z n0 h0) (S_cs : Sta Z Z.heap "java/lang/String" "COMPACT_STRINGS" "Z" (.int cs)) (hcs : ¬ (cs = (0 : Int32))) :
    MetFree l (⟨"java/lang/String", "length", "()I"⟩ : MethodName) (head1 (Jvm.Cond.code (⟨"java/lang/String", "length", "()I"⟩ : MethodName) jdk_42_method_54_code 1 (some .int) :: ws) ({ frames := 1, cells := 0, slots := 0, locals := 13 } : Room)) (fun a U => a = #[(.ref r0)] ∧ Z.Warmed39 U.vm ∧ U.heap = h0) (fun _ _ _ _ _ => True) (fun _ U o U' => ∃ v L, o = .returned v ∧ Q19 Z r0 va kc ch cs h0 n0 v U'.heap L ∧ FrameEnd U o U' L ({ frames := 1, cells := 0, slots := 0, locals := 13 } : Room).cells ({ frames := 1, cells := 0, slots := 0, locals := 13 } : Room).slots) := by
  refine MetFree.of_bodySF (plainFor_of_name pn2) hisR ?_
  intro p e s m args below meth c s₁ Bd hml0 hP hK
  obtain ⟨rfl, hZ, hh⟩ := hP
  have hx := Bd.exec
  have hby := Bd.bytes
  have hml : c.maxLocals = 1 := hml0
  have hown : s.vm.findClass "java/lang/String" = some m.cls := findClass_of_methodNamed Bd.named
  have hnm := (name_of_methodNamed Bd.named Bd.method).1
  have X0 : Stand p l e ({ frames := 1, cells := 0, slots := 0, locals := 13 } : Room) s m #[(.ref r0)] below meth c s₁ [] 0 0 := Stand.of_body Bd
  have e0 : s₁.heap = h0 := by rw [← hh, Bd.state]; rfl
  have N0 := Fr.nil n0
  have pre0 : ∀ t, Steps p.tables e below (s₁.setTop (mkF m 0 #[rv r0] [])) t → Steps p.tables e below (s₁.setTop (entryFrame m #[(.ref r0)] 1)) t := fun t k => castTop (ef_19 m r0) k
  have pre1 : ∀ t, Steps p.tables e below (s₁.setTop (mkF m 1 #[rv r0] [(.ref r0)])) t → Steps p.tables e below (s₁.setTop (entryFrame m #[(.ref r0)] 1)) t := by
    intro t kt
    refine pre0 _ ?_
    show Steps p.tables e below (s₁.setTop (mkF m 0 #[rv r0] [])) _
    refine XS.aloadN X0.here hx rfl (hb hby d19_0) rfl rfl ?_
    exact kt
  obtain ⟨T2, X2, e2, st2⟩ := getF X0 hx hZ hown (host := "") (Or.inl (hw _ (List.mem_of_getElem? (i := 27) rfl))) Via.refl e0 F_value_r0 (g := (mkF m 1 #[rv r0] [(.ref r0)])) rfl rfl (hb hby d19_1)
  obtain ⟨cl3, Ar3, -, S3, M3, -, -⟩ := id V_va
  have pre4 : ∀ t, Steps p.tables e below (T2.setTop (mkF m 6 #[rv r0] [(.ref r0), (.int (1 : Int32))])) t → Steps p.tables e below (s₁.setTop (entryFrame m #[(.ref r0)] 1)) t := by
    intro t kt
    refine pre1 _ ?_
    show Steps p.tables e below (s₁.setTop (mkF m 1 #[rv r0] [(.ref r0)])) _
    refine st2 _ ?_
    show Steps p.tables e below (T2.setTop (mkF m 4 #[rv r0] [(.ref va)])) _
    refine X2.arraylength hx (by rw [e2]; exact Ar3.1) (State.isArrayOf_alike hZ.alike Ar3.2.1) (g := (mkF m 4 #[rv r0] [(.ref va)])) rfl rfl (hb hby d19_4) _ ?_
    rw [len_of S3 M3]
    show Steps p.tables e below (T2.setTop (mkF m 5 #[rv r0] [(.int (1 : Int32))])) _
    refine XS.aloadN X2.here hx rfl (hb hby d19_5) rfl rfl ?_
    exact kt
  obtain ⟨cq5, kq5, q5a, q5b, q5c⟩ := isOf hZ e2 E_r0
  obtain ⟨_, _, ⟨T5, L5, k5, n5⟩, -, X5, ⟨Lc5, hQ5, l5, y5, z5⟩, st5⟩ := X2.virtualBack hx (y := (⟨"java/lang/String", "coder", "()B"⟩ : MethodName)) (z := (⟨"java/lang/String", "coder", "()B"⟩ : MethodName)) hown (mvT hZ (hw _ (List.mem_of_getElem? (i := 59) rfl))) (mvT hZ (hw _ (List.mem_of_getElem? (i := 60) rfl))) (notFace_of_selects (args := #[]) (mvT hZ (hw _ (List.mem_of_getElem? (i := 62) rfl)))) (mvT hZ (hw _ (List.mem_of_getElem? (i := 62) rfl))) (mvT hZ (hw _ (List.mem_of_getElem? (i := 61) rfl))) (by decide) (backOf (W := 1) (rm12 l Z a0 hw [] r0 va cs h0 n0 (Nat.le_trans Z0 (Keep.refl h0 []).1) (O0.keep (Keep.refl h0 []) all0) S_cs hcs F_value_r0 F_coder_r0 E_r0) hZ (hw _ (List.mem_of_getElem? (i := 63) rfl)) (hw _ (List.mem_of_getElem? (i := 7) rfl)) (by decide) (by decide)) q5a q5c (g := (mkF m 6 #[rv r0] [(.ref r0), (.int (1 : Int32))])) rfl (by rw [hml]; rfl) (Steps.refl _) (argsL := []) (rest := [(.int (1 : Int32))]) (lenOf pd6 rfl) rfl (by show 2 * 0 + _ ≤ _; exact Nat.le_of_eq rfl) (hb hby d19_6) (fun _ _ => ⟨rfl, e2, (by decide : 0 + 0 ≤ _), (by decide : 0 + 0 ≤ _)⟩)
  dsimp only [Pt.U, Pt.locs, Pt.cells, Pt.slots] at X5 l5 y5 z5 st5 hQ5
  subst l5 y5 z5
  obtain ⟨rfl, N5q, hh5⟩ := hQ5
  have N5 := Fr.app N0 N5q
  have pre6 : ∀ t, Steps p.tables e below (T5.setTop (mkF m 10 #[rv r0] [(.int (1 : Int32))])) t → Steps p.tables e below (s₁.setTop (entryFrame m #[(.ref r0)] 1)) t := by
    intro t kt
    refine pre4 _ ?_
    show Steps p.tables e below (T2.setTop (mkF m 6 #[rv r0] [(.ref r0), (.int (1 : Int32))])) _
    refine st5.trans ?_
    show Steps p.tables e below (T5.setTop (mkF m 9 #[rv r0] [(.int (0 : Int32)), (.int (1 : Int32))])) _
    refine XS.ishr X5.here hx rfl (hb hby d19_9) rfl ?_
    show Steps p.tables e below (T5.setTop (mkF m 10 #[rv r0] [(.int ((1 : Int32) >>> ((0 : Int32) &&& 31)))])) _
    rw [show ((1 : Int32) >>> ((0 : Int32) &&& 31)) = (1 : Int32) from (by decide)]
    exact kt
  obtain ⟨fs, hr, hrun, hended, hW, hsame⟩ := X5.leave (v := some (.int (1 : Int32))) (fun h => by rw [Bd.returns] at h; cases h)
  refine ⟨_, _, pre6 _ ?_, hrun, hended, _, _, rfl, ?_, ⟨_, rfl⟩, hW, hsame.mono (by decide) (by decide)⟩
  · show Steps p.tables e below (T5.setTop (mkF m 10 #[rv r0] [(.int (1 : Int32))])) _
    exact retI X5 hx Bd.returns (hb hby d19_10) hr
  · show Q19 Z r0 va kc ch cs h0 n0 _ T5.heap _
    rw [hh5]
    exact ⟨rfl, N5, rfl⟩
theorem pn7 : plainName "jdk/internal/util/Preconditions" = true := by first | (simp [plainName, overriddenIn]; done) | decide +kernel
theorem d32_0 : decode jdk_41_method_11_code 0 = .ok (.iload_n 0, 1) := by decide +kernel
theorem d32_1 : decode jdk_41_method_11_code 1 = .ok (.ifCond .lt 8, 3) := by decide +kernel
theorem d32_4 : decode jdk_41_method_11_code 4 = .ok (.iload_n 0, 1) := by decide +kernel
theorem d32_5 : decode jdk_41_method_11_code 5 = .ok (.iload_n 1, 1) := by decide +kernel
theorem d32_6 : decode jdk_41_method_11_code 6 = .ok (.if_icmp .lt 10, 3) := by decide +kernel
theorem d32_16 : decode jdk_41_method_11_code 16 = .ok (.iload_n 0, 1) := by decide +kernel
theorem d32_17 : decode jdk_41_method_11_code 17 = .ok (.ireturn, 1) := by decide +kernel
theorem ef_32 (m : MethodId) (x0 : Int32) (x1 : Int32) (x2 : Value) (hr2 : x2.isRef = true) : entryFrame m #[(.int x0), (.int x1), x2] 3 = mkF m 0 #[.val (.int x0), .val (.int x1), .val x2] [] := by rcases ref_cases hr2 with rfl | ⟨_, rfl⟩ <;> first | (simp [entryFrame, mkF, argsToLocals, Value.category]; done) | rfl
def Q32 (Z : State) (u2 : Value) (h0 : Heap) (n0 : Nat) (v : Option Value) (h : Heap) (L : List Loc) : Prop := v = some (.int (0 : Int32)) ∧ Fr n0 L ∧ h = h0
set_option maxRecDepth 65536 in
set_option maxHeartbeats 40000000 in
theorem rm32 (l : Launch) (Z : State) (a0 : Array Value) (hw : ∀ d ∈ tables_1, d.before a0 Z = true) (ws : List Jvm.Cond) (u2 : Value) (h0 : Heap) (n0 : Nat) (Z0 : n0 ≤ h0.size) (hr_u2 : u2.isRef = true) :
    MetFree l (⟨"jdk/internal/util/Preconditions", "checkIndex", "(IILjava/util/function/BiFunction;)I"⟩ : MethodName) (head1 (Jvm.Cond.code (⟨"jdk/internal/util/Preconditions", "checkIndex", "(IILjava/util/function/BiFunction;)I"⟩ : MethodName) jdk_41_method_11_code 3 (some .int) :: ws) ({ frames := 0, cells := 0, slots := 0, locals := 0 } : Room)) (fun a U => a = #[(.int (0 : Int32)), (.int (1 : Int32)), u2] ∧ Z.Warmed39 U.vm ∧ U.heap = h0) (fun _ _ _ _ _ => True) (fun _ U o U' => ∃ v L, o = .returned v ∧ Q32 Z u2 h0 n0 v U'.heap L ∧ FrameEnd U o U' L ({ frames := 0, cells := 0, slots := 0, locals := 0 } : Room).cells ({ frames := 0, cells := 0, slots := 0, locals := 0 } : Room).slots) := by
  refine MetFree.of_bodySF (plainFor_of_name pn7) hisR ?_
  intro p e s m args below meth c s₁ Bd hml0 hP hK
  obtain ⟨rfl, hZ, hh⟩ := hP
  have hx := Bd.exec
  have hby := Bd.bytes
  have hml : c.maxLocals = 3 := hml0
  have hown : s.vm.findClass "jdk/internal/util/Preconditions" = some m.cls := findClass_of_methodNamed Bd.named
  have hnm := (name_of_methodNamed Bd.named Bd.method).1
  have X0 : Stand p l e ({ frames := 0, cells := 0, slots := 0, locals := 0 } : Room) s m #[(.int (0 : Int32)), (.int (1 : Int32)), u2] below meth c s₁ [] 0 0 := Stand.of_body Bd
  have e0 : s₁.heap = h0 := by rw [← hh, Bd.state]; rfl
  have N0 := Fr.nil n0
  have pre0 : ∀ t, Steps p.tables e below (s₁.setTop (mkF m 0 #[iv (0 : Int32), iv (1 : Int32), .val u2] [])) t → Steps p.tables e below (s₁.setTop (entryFrame m #[(.int (0 : Int32)), (.int (1 : Int32)), u2] 3)) t := fun t k => castTop (ef_32 m (0 : Int32) (1 : Int32) u2 hr_u2) k
  have pre1 : ∀ t, Steps p.tables e below (s₁.setTop (mkF m 17 #[iv (0 : Int32), iv (1 : Int32), .val u2] [(.int (0 : Int32))])) t → Steps p.tables e below (s₁.setTop (entryFrame m #[(.int (0 : Int32)), (.int (1 : Int32)), u2] 3)) t := by
    intro t kt
    refine pre0 _ ?_
    show Steps p.tables e below (s₁.setTop (mkF m 0 #[iv (0 : Int32), iv (1 : Int32), .val u2] [])) _
    refine XS.iloadN X0.here hx rfl (hb hby d32_0) rfl ?_
    refine XS.ifNo X0.here hx rfl (hb hby d32_1) rfl ((if0 _ _).trans (flt (by decide)).1) ?_
    refine XS.iloadN X0.here hx rfl (hb hby d32_4) rfl ?_
    refine XS.iloadN X0.here hx rfl (hb hby d32_5) rfl ?_
    refine XS.icmpYes X0.here hx rfl (pc0 := 6) (pc' := 16) rfl (hb hby d32_6) rfl (tlt (by decide)).1 (by decide) (by decide) ?_
    refine XS.iloadN X0.here hx rfl (hb hby d32_16) rfl ?_
    exact kt
  obtain ⟨fs, hr, hrun, hended, hW, hsame⟩ := X0.leave (v := some (.int (0 : Int32))) (fun h => by rw [Bd.returns] at h; cases h)
  refine ⟨_, _, pre1 _ ?_, hrun, hended, _, _, rfl, ?_, ⟨_, rfl⟩, hW, hsame.mono (by decide) (by decide)⟩
  · show Steps p.tables e below (s₁.setTop (mkF m 17 #[iv (0 : Int32), iv (1 : Int32), .val u2] [(.int (0 : Int32))])) _
    exact retI X0 hx Bd.returns (hb hby d32_17) hr
  · show Q32 Z u2 h0 n0 _ s₁.heap _
    rw [e0]
    exact ⟨rfl, N0, rfl⟩
theorem d31_0 : decode jdk_42_method_155_code 0 = .ok (.iload_n 0, 1) := by decide +kernel
theorem d31_1 : decode jdk_42_method_155_code 1 = .ok (.iload_n 1, 1) := by decide +kernel
theorem d31_2 : decode jdk_42_method_155_code 2 = .ok (.getstatic 1053, 3) := by decide +kernel
theorem pd8 : parseMethodDescriptor "(IILjava/util/function/BiFunction;)I" = some ⟨[.int, .int, (.object "java/util/function/BiFunction")], some .int⟩ := by decide +kernel
theorem d31_5 : decode jdk_42_method_155_code 5 = .ok (.invokestatic 1059, 3) := by decide +kernel
theorem d31_8 : decode jdk_42_method_155_code 8 = .ok (.pop, 1) := by decide +kernel
theorem d31_9 : decode jdk_42_method_155_code 9 = .ok (.return_, 1) := by decide +kernel
theorem ef_31 (m : MethodId) (x0 : Int32) (x1 : Int32) : entryFrame m #[(.int x0), (.int x1)] 2 = mkF m 0 #[.val (.int x0), .val (.int x1)] [] := by first | (simp [entryFrame, mkF, argsToLocals, Value.category]; done) | rfl
def Q31 (Z : State) (fm : Value) (h0 : Heap) (n0 : Nat) (v : Option Value) (h : Heap) (L : List Loc) : Prop := v = none ∧ Fr n0 L ∧ h = h0
set_option maxRecDepth 65536 in
set_option maxHeartbeats 40000000 in
theorem rm31 (l : Launch) (Z : State) (a0 : Array Value) (hw : ∀ d ∈ tables_1, d.before a0 Z = true) (ws : List Jvm.Cond) (fm : Value) (h0 : Heap) (n0 : Nat) (Z0 : n0 ≤ h0.size) (O0 : Old Z n0 h0) (S_fm : Sta Z Z.heap "jdk/internal/util/Preconditions" "SIOOBE_FORMATTER" "Ljava/util/function/BiFunction;" fm) (hr_fm : fm.isRef = true) :
    MetFree l (⟨"java/lang/String", "checkIndex", "(II)V"⟩ : MethodName) (head1 (Jvm.Cond.code (⟨"java/lang/String", "checkIndex", "(II)V"⟩ : MethodName) jdk_42_method_155_code 2 none :: ws) ({ frames := 1, cells := 0, slots := 0, locals := 14 } : Room)) (fun a U => a = #[(.int (0 : Int32)), (.int (1 : Int32))] ∧ Z.Warmed39 U.vm ∧ U.heap = h0) (fun _ _ _ _ _ => True) (fun _ U o U' => ∃ v L, o = .returned v ∧ Q31 Z fm h0 n0 v U'.heap L ∧ FrameEnd U o U' L ({ frames := 1, cells := 0, slots := 0, locals := 14 } : Room).cells ({ frames := 1, cells := 0, slots := 0, locals := 14 } : Room).slots) := by
  refine MetFree.of_bodySF (plainFor_of_name pn2) hisR ?_
  intro p e s m args below meth c s₁ Bd hml0 hP hK
  obtain ⟨rfl, hZ, hh⟩ := hP
  have hx := Bd.exec
  have hby := Bd.bytes
  have hml : c.maxLocals = 2 := hml0
  have hown : s.vm.findClass "java/lang/String" = some m.cls := findClass_of_methodNamed Bd.named
  have hnm := (name_of_methodNamed Bd.named Bd.method).1
  have X0 : Stand p l e ({ frames := 1, cells := 0, slots := 0, locals := 14 } : Room) s m #[(.int (0 : Int32)), (.int (1 : Int32))] below meth c s₁ [] 0 0 := Stand.of_body Bd
  have e0 : s₁.heap = h0 := by rw [← hh, Bd.state]; rfl
  have N0 := Fr.nil n0
  have pre0 : ∀ t, Steps p.tables e below (s₁.setTop (mkF m 0 #[iv (0 : Int32), iv (1 : Int32)] [])) t → Steps p.tables e below (s₁.setTop (entryFrame m #[(.int (0 : Int32)), (.int (1 : Int32))] 2)) t := fun t k => castTop (ef_31 m (0 : Int32) (1 : Int32)) k
  have pre1 : ∀ t, Steps p.tables e below (s₁.setTop (mkF m 2 #[iv (0 : Int32), iv (1 : Int32)] [(.int (1 : Int32)), (.int (0 : Int32))])) t → Steps p.tables e below (s₁.setTop (entryFrame m #[(.int (0 : Int32)), (.int (1 : Int32))] 2)) t := by
    intro t kt
    refine pre0 _ ?_
    show Steps p.tables e below (s₁.setTop (mkF m 0 #[iv (0 : Int32), iv (1 : Int32)] [])) _
    refine XS.iloadN X0.here hx rfl (hb hby d31_0) rfl ?_
    refine XS.iloadN X0.here hx rfl (hb hby d31_1) rfl ?_
    exact kt
  obtain ⟨T2, X2, e2, st2⟩ := getS2 X0 hx hZ hown (host := "") (Or.inl (hw _ (List.mem_of_getElem? (i := 155) rfl))) Via.refl e0 (S_fm.ext (O0.keep (Keep.refl h0 []) all0).2) (g := (mkF m 2 #[iv (0 : Int32), iv (1 : Int32)] [(.int (1 : Int32)), (.int (0 : Int32))])) rfl (hb hby d31_2)
  have pre3 : ∀ t, Steps p.tables e below (T2.setTop (mkF m 5 #[iv (0 : Int32), iv (1 : Int32)] [fm, (.int (1 : Int32)), (.int (0 : Int32))])) t → Steps p.tables e below (s₁.setTop (entryFrame m #[(.int (0 : Int32)), (.int (1 : Int32))] 2)) t := by
    intro t kt
    refine pre1 _ ?_
    show Steps p.tables e below (s₁.setTop (mkF m 2 #[iv (0 : Int32), iv (1 : Int32)] [(.int (1 : Int32)), (.int (0 : Int32))])) _
    refine st2 _ ?_
    exact kt
  obtain ⟨_, _, ⟨T4, L4, k4, n4⟩, -, X4, ⟨Lc4, hQ4, l4, y4, z4⟩, st4⟩ := Jvm.LawKit.callS X2 hx (y := (⟨"jdk/internal/util/Preconditions", "checkIndex", "(IILjava/util/function/BiFunction;)I"⟩ : MethodName)) hown (mvT hZ (hw _ (List.mem_of_getElem? (i := 157) rfl))) (mvT hZ (hw _ (List.mem_of_getElem? (i := 158) rfl))) (mvT hZ (hw _ (List.mem_of_getElem? (i := 156) rfl))) (mvT hZ (hw _ (List.mem_of_getElem? (i := 159) rfl))) (by decide) (backOf (W := 0) (rm32 l Z a0 hw [] fm h0 n0 (Nat.le_trans Z0 (Keep.refl h0 []).1) hr_fm) hZ (hw _ (List.mem_of_getElem? (i := 159) rfl)) (hw _ (List.mem_of_getElem? (i := 156) rfl)) (by decide) (by decide)) (g := (mkF m 5 #[iv (0 : Int32), iv (1 : Int32)] [fm, (.int (1 : Int32)), (.int (0 : Int32))])) rfl (by rw [hml]; rfl) (argsL := [(.int (0 : Int32)), (.int (1 : Int32)), fm]) (rest := []) (lenOf pd8 rfl) rfl (by show 2 * 0 + _ ≤ _; exact Nat.le_of_eq rfl) (hb hby d31_5) (fun _ _ => ⟨rfl, e2, (by decide : 0 + 0 ≤ _), (by decide : 0 + 0 ≤ _)⟩)
  dsimp only [Pt.U, Pt.locs, Pt.cells, Pt.slots] at X4 l4 y4 z4 st4 hQ4
  subst l4 y4 z4
  obtain ⟨rfl, N4q, hh4⟩ := hQ4
  have N4 := Fr.app N0 N4q
  have pre5 : ∀ t, Steps p.tables e below (T4.setTop (mkF m 9 #[iv (0 : Int32), iv (1 : Int32)] [])) t → Steps p.tables e below (s₁.setTop (entryFrame m #[(.int (0 : Int32)), (.int (1 : Int32))] 2)) t := by
    intro t kt
    refine pre3 _ ?_
    show Steps p.tables e below (T2.setTop (mkF m 5 #[iv (0 : Int32), iv (1 : Int32)] [fm, (.int (1 : Int32)), (.int (0 : Int32))])) _
    refine st4 _ ?_
    show Steps p.tables e below (T4.setTop (mkF m 8 #[iv (0 : Int32), iv (1 : Int32)] [(.int (0 : Int32))])) _
    refine XS.pop X4.here hx rfl (hb hby d31_8) rfl rfl ?_
    exact kt
  obtain ⟨fs, hr, hrun, hended, hW, hsame⟩ := X4.leave (v := none) (fun _ => rfl)
  refine ⟨_, _, pre5 _ ?_, hrun, hended, _, _, rfl, ?_, ⟨_, rfl⟩, hW, hsame.mono (by decide) (by decide)⟩
  · show Steps p.tables e below (T4.setTop (mkF m 9 #[iv (0 : Int32), iv (1 : Int32)] [])) _
    exact X4.returnOut hx Bd.returns (hb hby d31_9) hr
  · show Q31 Z fm h0 n0 _ T4.heap _
    rw [hh4]
    exact ⟨rfl, N4, rfl⟩
theorem d30_0 : decode jdk_43_method_2_code 0 = .ok (.iload_n 1, 1) := by decide +kernel
theorem d30_1 : decode jdk_43_method_2_code 1 = .ok (.aload_n 0, 1) := by decide +kernel
theorem d30_2 : decode jdk_43_method_2_code 2 = .ok (.arraylength, 1) := by decide +kernel
theorem pd9 : parseMethodDescriptor "(II)V" = some ⟨[.int, .int], none⟩ := by decide +kernel
theorem d30_3 : decode jdk_43_method_2_code 3 = .ok (.invokestatic 9, 3) := by decide +kernel
theorem d30_6 : decode jdk_43_method_2_code 6 = .ok (.aload_n 0, 1) := by decide +kernel
theorem d30_7 : decode jdk_43_method_2_code 7 = .ok (.iload_n 1, 1) := by decide +kernel
theorem d30_8 : decode jdk_43_method_2_code 8 = .ok (.baload, 1) := by decide +kernel
theorem d30_9 : decode jdk_43_method_2_code 9 = .ok (.sipush 255, 3) := by decide +kernel
theorem d30_12 : decode jdk_43_method_2_code 12 = .ok (.iand, 1) := by decide +kernel
theorem d30_13 : decode jdk_43_method_2_code 13 = .ok (.i2c, 1) := by decide +kernel
theorem d30_14 : decode jdk_43_method_2_code 14 = .ok (.ireturn, 1) := by decide +kernel
theorem ef_30 (m : MethodId) (x0 : Addr) (x1 : Int32) : entryFrame m #[(.ref x0), (.int x1)] 2 = mkF m 0 #[.val (.ref x0), .val (.int x1)] [] := by first | (simp [entryFrame, mkF, argsToLocals, Value.category]; done) | rfl
def Q30 (Z : State) (r0 : Addr) (kc : ClassId) (ch : Int32) (fm : Value) (h0 : Heap) (n0 : Nat) (v : Option Value) (h : Heap) (L : List Loc) : Prop := v = some (.int ch) ∧ Fr n0 L ∧ h = h0
set_option maxRecDepth 65536 in
set_option maxHeartbeats 40000000 in
theorem rm30 (l : Launch) (Z : State) (a0 : Array Value) (hw : ∀ d ∈ tables_1, d.before a0 Z = true) (ws : List Jvm.Cond) (r0 : Addr) (kc : ClassId) (ch : Int32) (fm : Value) (h0 : Heap) (n0 : Nat) (Z0 : n0 ≤ h0.size) (V_r0 : Arv Z h0 r0 kc .byte (1 : Int32) [(.int ch)] (.int (0 : Int32))) (O0 : Old Z n0 h0) (S_fm : Sta Z Z.heap "jdk/internal/util/Preconditions" "SIOOBE_FORMATTER" "Ljava/util/function/BiFunction;" fm) (hr_fm : fm.isRef = true) (hok_ch : own_ok ch) :
    MetFree l (⟨"java/lang/StringLatin1", "charAt", "([BI)C"⟩ : MethodName) (head1 (Jvm.Cond.code (⟨"java/lang/StringLatin1", "charAt", "([BI)C"⟩ : MethodName) jdk_43_method_2_code 2 (some .char) :: ws) ({ frames := 2, cells := 0, slots := 0, locals := 27 } : Room)) (fun a U => a = #[(.ref r0), (.int (0 : Int32))] ∧ Z.Warmed39 U.vm ∧ U.heap = h0) (fun _ _ _ _ _ => True) (fun _ U o U' => ∃ v L, o = .returned v ∧ Q30 Z r0 kc ch fm h0 n0 v U'.heap L ∧ FrameEnd U o U' L ({ frames := 2, cells := 0, slots := 0, locals := 27 } : Room).cells ({ frames := 2, cells := 0, slots := 0, locals := 27 } : Room).slots) := by
  refine MetFree.of_bodySF (plainFor_of_name pn1) hisR ?_
  intro p e s m args below meth c s₁ Bd hml0 hP hK
  obtain ⟨rfl, hZ, hh⟩ := hP
  have hx := Bd.exec
  have hby := Bd.bytes
  have hml : c.maxLocals = 2 := hml0
  have hown : s.vm.findClass "java/lang/StringLatin1" = some m.cls := findClass_of_methodNamed Bd.named
  have hnm := (name_of_methodNamed Bd.named Bd.method).1
  have X0 : Stand p l e ({ frames := 2, cells := 0, slots := 0, locals := 27 } : Room) s m #[(.ref r0), (.int (0 : Int32))] below meth c s₁ [] 0 0 := Stand.of_body Bd
  have e0 : s₁.heap = h0 := by rw [← hh, Bd.state]; rfl
  have N0 := Fr.nil n0
  have pre0 : ∀ t, Steps p.tables e below (s₁.setTop (mkF m 0 #[rv r0, iv (0 : Int32)] [])) t → Steps p.tables e below (s₁.setTop (entryFrame m #[(.ref r0), (.int (0 : Int32))] 2)) t := fun t k => castTop (ef_30 m r0 (0 : Int32)) k
  obtain ⟨cl1, Ar1, -, S1, M1, -, -⟩ := id V_r0
  have pre2 : ∀ t, Steps p.tables e below (s₁.setTop (mkF m 3 #[rv r0, iv (0 : Int32)] [(.int (1 : Int32)), (.int (0 : Int32))])) t → Steps p.tables e below (s₁.setTop (entryFrame m #[(.ref r0), (.int (0 : Int32))] 2)) t := by
    intro t kt
    refine pre0 _ ?_
    show Steps p.tables e below (s₁.setTop (mkF m 0 #[rv r0, iv (0 : Int32)] [])) _
    refine XS.iloadN X0.here hx rfl (hb hby d30_0) rfl ?_
    refine XS.aloadN X0.here hx rfl (hb hby d30_1) rfl rfl ?_
    refine X0.arraylength hx (by rw [e0]; exact Ar1.1) (State.isArrayOf_alike hZ.alike Ar1.2.1) (g := (mkF m 2 #[rv r0, iv (0 : Int32)] [(.ref r0), (.int (0 : Int32))])) rfl rfl (hb hby d30_2) _ ?_
    rw [len_of S1 M1]
    exact kt
  obtain ⟨_, _, ⟨T3, L3, k3, n3⟩, -, X3, ⟨Lc3, hQ3, l3, y3, z3⟩, st3⟩ := Jvm.LawKit.callS X0 hx (y := (⟨"java/lang/String", "checkIndex", "(II)V"⟩ : MethodName)) hown (mvT hZ (hw _ (List.mem_of_getElem? (i := 152) rfl))) (mvT hZ (hw _ (List.mem_of_getElem? (i := 153) rfl))) (mvT hZ (hw _ (List.mem_of_getElem? (i := 7) rfl))) (mvT hZ (hw _ (List.mem_of_getElem? (i := 154) rfl))) (by decide) (backOf (W := 0) (rm31 l Z a0 hw [] fm h0 n0 (Nat.le_trans Z0 (Keep.refl h0 []).1) (O0.keep (Keep.refl h0 []) all0) S_fm hr_fm) hZ (hw _ (List.mem_of_getElem? (i := 154) rfl)) (hw _ (List.mem_of_getElem? (i := 7) rfl)) (by decide) (by decide)) (g := (mkF m 3 #[rv r0, iv (0 : Int32)] [(.int (1 : Int32)), (.int (0 : Int32))])) rfl (by rw [hml]; rfl) (argsL := [(.int (0 : Int32)), (.int (1 : Int32))]) (rest := []) (lenOf pd9 rfl) rfl (by show 2 * 0 + _ ≤ _; exact Nat.le_of_eq rfl) (hb hby d30_3) (fun _ _ => ⟨rfl, e0, (by decide : 0 + 0 ≤ _), (by decide : 0 + 0 ≤ _)⟩)
  dsimp only [Pt.U, Pt.locs, Pt.cells, Pt.slots] at X3 l3 y3 z3 st3 hQ3
  subst l3 y3 z3
  obtain ⟨rfl, N3q, hh3⟩ := hQ3
  have N3 := Fr.app N0 N3q
  obtain ⟨cl4, Ar4, q4, S4, M4, H4, G4⟩ := id V_r0
  have hin4 : ¬ ((0 : Int32) < 0 ∨ cl4.slots.size ≤ ((0 : Int32)).toNatClampNeg) := inb_of S4 ⟨by decide, by decide⟩
  have hat4 : cl4.slots[((0 : Int32)).toNatClampNeg]? = some (.int ch) := H4.at hin4 rfl
  have pre5 : ∀ t, Steps p.tables e below (T3.setTop (mkF m 14 #[rv r0, iv (0 : Int32)] [(.int ch)])) t → Steps p.tables e below (s₁.setTop (entryFrame m #[(.ref r0), (.int (0 : Int32))] 2)) t := by
    intro t kt
    refine pre2 _ ?_
    show Steps p.tables e below (s₁.setTop (mkF m 3 #[rv r0, iv (0 : Int32)] [(.int (1 : Int32)), (.int (0 : Int32))])) _
    refine st3 _ ?_
    show Steps p.tables e below (T3.setTop (mkF m 6 #[rv r0, iv (0 : Int32)] [])) _
    refine XS.aloadN X3.here hx rfl (hb hby d30_6) rfl rfl ?_
    refine XS.iloadN X3.here hx rfl (hb hby d30_7) rfl ?_
    refine X3.baloadBytes hx (j := (0 : Int32)) (v := (.int ch)) (by rw [hh3]; exact Ar4.1) (State.isArrayOf_alike hZ.alike Ar4.2.1) Ar4.2.2 hin4 hat4 (g := (mkF m 8 #[rv r0, iv (0 : Int32)] [(.int (0 : Int32)), (.ref r0)])) rfl rfl (hb hby d30_8) _ ?_
    show Steps p.tables e below (T3.setTop (mkF m 9 #[rv r0, iv (0 : Int32)] [(.int ch)])) _
    refine XS.sipush X3.here hx rfl (hb hby d30_9) ?_
    refine XS.iand X3.here hx rfl (hb hby d30_12) rfl ?_
    show Steps p.tables e below (T3.setTop (mkF m 13 #[rv r0, iv (0 : Int32)] [(.int (ch &&& (255 : Int32)))])) _
    rw [show (ch &&& (255 : Int32)) = ch from (own_255 ch hok_ch)]
    show Steps p.tables e below (T3.setTop (mkF m 13 #[rv r0, iv (0 : Int32)] [(.int ch)])) _
    refine XS.i2c X3.here hx rfl (hb hby d30_13) rfl ?_
    show Steps p.tables e below (T3.setTop (mkF m 14 #[rv r0, iv (0 : Int32)] [(.int (ch.toUInt32.toUInt16.toUInt32.toInt32))])) _
    rw [show (ch.toUInt32.toUInt16.toUInt32.toInt32) = ch from (own_c ch hok_ch)]
    exact kt
  obtain ⟨fs, hr, hrun, hended, hW, hsame⟩ := X3.leave (v := some (.int (nar .char ch))) (fun h => by rw [Bd.returns] at h; cases h)
  refine ⟨_, _, pre5 _ ?_, hrun, hended, _, _, rfl, ?_, ⟨_, rfl⟩, hW, hsame.mono (by decide) (by decide)⟩
  · show Steps p.tables e below (T3.setTop (mkF m 14 #[rv r0, iv (0 : Int32)] [(.int ch)])) _
    exact retN X3 hx (t := .char) Bd.returns (by simp) (hb hby d30_14) hr
  · show Q30 Z r0 kc ch fm h0 n0 _ T3.heap _
    rw [hh3]
    exact ⟨congrArg (fun z => some (Value.int z)) (own_nrc ch hok_ch), N3, rfl⟩
theorem d29_0 : decode jdk_42_method_56_code 0 = .ok (.aload_n 0, 1) := by decide +kernel
theorem pd10 : parseMethodDescriptor "()Z" = some ⟨[], some .boolean⟩ := by decide +kernel
theorem d29_1 : decode jdk_42_method_56_code 1 = .ok (.invokevirtual 492, 3) := by decide +kernel
theorem d29_4 : decode jdk_42_method_56_code 4 = .ok (.ifCond .eq 12, 3) := by decide +kernel
theorem d29_7 : decode jdk_42_method_56_code 7 = .ok (.aload_n 0, 1) := by decide +kernel
theorem d29_8 : decode jdk_42_method_56_code 8 = .ok (.getfield 9, 3) := by decide +kernel
theorem d29_11 : decode jdk_42_method_56_code 11 = .ok (.iload_n 1, 1) := by decide +kernel
theorem pd11 : parseMethodDescriptor "([BI)C" = some ⟨[(.array .byte), .int], some .char⟩ := by decide +kernel
theorem d29_12 : decode jdk_42_method_56_code 12 = .ok (.invokestatic 495, 3) := by decide +kernel
theorem d29_15 : decode jdk_42_method_56_code 15 = .ok (.ireturn, 1) := by decide +kernel
theorem ef_29 (m : MethodId) (x0 : Addr) (x1 : Int32) : entryFrame m #[(.ref x0), (.int x1)] 2 = mkF m 0 #[.val (.ref x0), .val (.int x1)] [] := by first | (simp [entryFrame, mkF, argsToLocals, Value.category]; done) | rfl
def Q29 (Z : State) (r0 : Addr) (va : Addr) (kc : ClassId) (ch : Int32) (cs : Int32) (fm : Value) (h0 : Heap) (n0 : Nat) (v : Option Value) (h : Heap) (L : List Loc) : Prop := v = some (.int ch) ∧ Fr n0 L ∧ h = h0
set_option maxRecDepth 65536 in
set_option maxHeartbeats 40000000 in
theorem rm29 (l : Launch) (Z : State) (a0 : Array Value) (hw : ∀ d ∈ tables_1, d.before a0 Z = true) (ws : List Jvm.Cond) (r0 : Addr) (va : Addr) (kc : ClassId) (ch : Int32) (cs : Int32) (fm : Value) (h0 : Heap) (n0 : Nat) (Z0 : n0 ≤ h0.size) (F_value_r0 : Fld Z h0 r0 "java/lang/String" "value" "[B" (.ref va)) (F_coder_r0 : Fld Z h0 r0 "java/lang/String" "coder" "B" (.int (0 : Int32))) (E_r0 : Exa Z h0 r0 "java/lang/String") (V_va : Arv Z h0 va kc .byte (1 : Int32) [(.int ch)] (.int (0 : Int32))) (O0 : Old Z n0 h0) (S_cs : Sta Z Z.heap "java/lang/String" "COMPACT_STRINGS" "Z" (.int cs)) (hcs : ¬ (cs = (0 : Int32))) (S_fm : Sta Z Z.heap "jdk/internal/util/Preconditions" "SIOOBE_FORMATTER" "Ljava/util/function/BiFunction;" fm) (hr_fm : fm.isRef = true) (hok_ch : own_ok ch) :
    MetFree l (⟨"java/lang/String", "charAt", "(I)C"⟩ : MethodName) (head1 (Jvm.Cond.code (⟨"java/lang/String", "charAt", "(I)C"⟩ : MethodName) jdk_42_method_56_code 2 (some .char) :: ws) ({ frames := 3, cells := 0, slots := 0, locals := 40 } : Room)) (fun a U => a = #[(.ref r0), (.int (0 : Int32))] ∧ Z.Warmed39 U.vm ∧ U.heap = h0) (fun _ _ _ _ _ => True) (fun _ U o U' => ∃ v L, o = .returned v ∧ Q29 Z r0 va kc ch cs fm h0 n0 v U'.heap L ∧ FrameEnd U o U' L ({ frames := 3, cells := 0, slots := 0, locals := 40 } : Room).cells ({ frames := 3, cells := 0, slots := 0, locals := 40 } : Room).slots) := by
  refine MetFree.of_bodySF (plainFor_of_name pn2) hisR ?_
  intro p e s m args below meth c s₁ Bd hml0 hP hK
  obtain ⟨rfl, hZ, hh⟩ := hP
  have hx := Bd.exec
  have hby := Bd.bytes
  have hml : c.maxLocals = 2 := hml0
  have hown : s.vm.findClass "java/lang/String" = some m.cls := findClass_of_methodNamed Bd.named
  have hnm := (name_of_methodNamed Bd.named Bd.method).1
  have X0 : Stand p l e ({ frames := 3, cells := 0, slots := 0, locals := 40 } : Room) s m #[(.ref r0), (.int (0 : Int32))] below meth c s₁ [] 0 0 := Stand.of_body Bd
  have e0 : s₁.heap = h0 := by rw [← hh, Bd.state]; rfl
  have N0 := Fr.nil n0
  have pre0 : ∀ t, Steps p.tables e below (s₁.setTop (mkF m 0 #[rv r0, iv (0 : Int32)] [])) t → Steps p.tables e below (s₁.setTop (entryFrame m #[(.ref r0), (.int (0 : Int32))] 2)) t := fun t k => castTop (ef_29 m r0 (0 : Int32)) k
  have pre1 : ∀ t, Steps p.tables e below (s₁.setTop (mkF m 1 #[rv r0, iv (0 : Int32)] [(.ref r0)])) t → Steps p.tables e below (s₁.setTop (entryFrame m #[(.ref r0), (.int (0 : Int32))] 2)) t := by
    intro t kt
    refine pre0 _ ?_
    show Steps p.tables e below (s₁.setTop (mkF m 0 #[rv r0, iv (0 : Int32)] [])) _
    refine XS.aloadN X0.here hx rfl (hb hby d29_0) rfl rfl ?_
    exact kt
  obtain ⟨cq2, kq2, q2a, q2b, q2c⟩ := isOf hZ e0 E_r0
  obtain ⟨_, _, ⟨T2, L2, k2, n2⟩, -, X2, ⟨Lc2, hQ2, l2, y2, z2⟩, st2⟩ := X0.virtualBack hx (y := (⟨"java/lang/String", "isLatin1", "()Z"⟩ : MethodName)) (z := (⟨"java/lang/String", "isLatin1", "()Z"⟩ : MethodName)) hown (mvT hZ (hw _ (List.mem_of_getElem? (i := 64) rfl))) (mvT hZ (hw _ (List.mem_of_getElem? (i := 65) rfl))) (notFace_of_selects (args := #[]) (mvT hZ (hw _ (List.mem_of_getElem? (i := 67) rfl)))) (mvT hZ (hw _ (List.mem_of_getElem? (i := 67) rfl))) (mvT hZ (hw _ (List.mem_of_getElem? (i := 66) rfl))) (by decide) (backOf (W := 0) (rm13 l Z a0 hw [] r0 va cs h0 n0 (Nat.le_trans Z0 (Keep.refl h0 []).1) (O0.keep (Keep.refl h0 []) all0) S_cs hcs F_value_r0 F_coder_r0 E_r0) hZ (hw _ (List.mem_of_getElem? (i := 68) rfl)) (hw _ (List.mem_of_getElem? (i := 7) rfl)) (by decide) (by decide)) q2a q2c (g := (mkF m 1 #[rv r0, iv (0 : Int32)] [(.ref r0)])) rfl (by rw [hml]; rfl) (Steps.refl _) (argsL := []) (rest := []) (lenOf pd10 rfl) rfl (by show 2 * 0 + _ ≤ _; exact Nat.le_of_eq rfl) (hb hby d29_1) (fun _ _ => ⟨rfl, e0, (by decide : 0 + 0 ≤ _), (by decide : 0 + 0 ≤ _)⟩)
  dsimp only [Pt.U, Pt.locs, Pt.cells, Pt.slots] at X2 l2 y2 z2 st2 hQ2
  subst l2 y2 z2
  obtain ⟨rfl, N2q, hh2⟩ := hQ2
  have N2 := Fr.app N0 N2q
  have pre3 : ∀ t, Steps p.tables e below (T2.setTop (mkF m 8 #[rv r0, iv (0 : Int32)] [(.ref r0)])) t → Steps p.tables e below (s₁.setTop (entryFrame m #[(.ref r0), (.int (0 : Int32))] 2)) t := by
    intro t kt
    refine pre1 _ ?_
    show Steps p.tables e below (s₁.setTop (mkF m 1 #[rv r0, iv (0 : Int32)] [(.ref r0)])) _
    refine st2.trans ?_
    show Steps p.tables e below (T2.setTop (mkF m 4 #[rv r0, iv (0 : Int32)] [(.int (1 : Int32))])) _
    refine XS.ifNo X2.here hx rfl (hb hby d29_4) rfl ((if0 _ _).trans (feq (by decide)).1) ?_
    refine XS.aloadN X2.here hx rfl (hb hby d29_7) rfl rfl ?_
    exact kt
  obtain ⟨T4, X4, e4, st4⟩ := getF X2 hx hZ hown (host := "") (Or.inl (hw _ (List.mem_of_getElem? (i := 27) rfl))) Via.refl hh2 F_value_r0 (g := (mkF m 8 #[rv r0, iv (0 : Int32)] [(.ref r0)])) rfl rfl (hb hby d29_8)
  have pre5 : ∀ t, Steps p.tables e below (T4.setTop (mkF m 12 #[rv r0, iv (0 : Int32)] [(.int (0 : Int32)), (.ref va)])) t → Steps p.tables e below (s₁.setTop (entryFrame m #[(.ref r0), (.int (0 : Int32))] 2)) t := by
    intro t kt
    refine pre3 _ ?_
    show Steps p.tables e below (T2.setTop (mkF m 8 #[rv r0, iv (0 : Int32)] [(.ref r0)])) _
    refine st4 _ ?_
    show Steps p.tables e below (T4.setTop (mkF m 11 #[rv r0, iv (0 : Int32)] [(.ref va)])) _
    refine XS.iloadN X4.here hx rfl (hb hby d29_11) rfl ?_
    exact kt
  obtain ⟨_, _, ⟨T6, L6, k6, n6⟩, -, X6, ⟨Lc6, hQ6, l6, y6, z6⟩, st6⟩ := Jvm.LawKit.callS X4 hx (y := (⟨"java/lang/StringLatin1", "charAt", "([BI)C"⟩ : MethodName)) hown (mvT hZ (hw _ (List.mem_of_getElem? (i := 149) rfl))) (mvT hZ (hw _ (List.mem_of_getElem? (i := 150) rfl))) (mvT hZ (hw _ (List.mem_of_getElem? (i := 12) rfl))) (mvT hZ (hw _ (List.mem_of_getElem? (i := 151) rfl))) (by decide) (backOf (W := 0) (rm30 l Z a0 hw [] va kc ch fm h0 n0 (Nat.le_trans Z0 (Keep.refl h0 []).1) V_va (O0.keep (Keep.refl h0 []) all0) S_fm hr_fm hok_ch) hZ (hw _ (List.mem_of_getElem? (i := 151) rfl)) (hw _ (List.mem_of_getElem? (i := 12) rfl)) (by decide) (by decide)) (g := (mkF m 12 #[rv r0, iv (0 : Int32)] [(.int (0 : Int32)), (.ref va)])) rfl (by rw [hml]; rfl) (argsL := [(.ref va), (.int (0 : Int32))]) (rest := []) (lenOf pd11 rfl) rfl (by show 2 * 0 + _ ≤ _; exact Nat.le_of_eq rfl) (hb hby d29_12) (fun _ _ => ⟨rfl, e4, (by decide : 0 + 0 ≤ _), (by decide : 0 + 0 ≤ _)⟩)
  dsimp only [Pt.U, Pt.locs, Pt.cells, Pt.slots] at X6 l6 y6 z6 st6 hQ6
  subst l6 y6 z6
  obtain ⟨rfl, N6q, hh6⟩ := hQ6
  have N6 := Fr.app N2 N6q
  have pre7 : ∀ t, Steps p.tables e below (T6.setTop (mkF m 15 #[rv r0, iv (0 : Int32)] [(.int ch)])) t → Steps p.tables e below (s₁.setTop (entryFrame m #[(.ref r0), (.int (0 : Int32))] 2)) t := by
    intro t kt
    refine pre5 _ ?_
    show Steps p.tables e below (T4.setTop (mkF m 12 #[rv r0, iv (0 : Int32)] [(.int (0 : Int32)), (.ref va)])) _
    refine st6 _ ?_
    exact kt
  obtain ⟨fs, hr, hrun, hended, hW, hsame⟩ := X6.leave (v := some (.int (nar .char ch))) (fun h => by rw [Bd.returns] at h; cases h)
  refine ⟨_, _, pre7 _ ?_, hrun, hended, _, _, rfl, ?_, ⟨_, rfl⟩, hW, hsame.mono (by decide) (by decide)⟩
  · show Steps p.tables e below (T6.setTop (mkF m 15 #[rv r0, iv (0 : Int32)] [(.int ch)])) _
    exact retN X6 hx (t := .char) Bd.returns (by simp) (hb hby d29_15) hr
  · show Q29 Z r0 va kc ch cs fm h0 n0 _ T6.heap _
    rw [hh6]
    exact ⟨congrArg (fun z => some (Value.int z)) (own_nrc ch hok_ch), N6, rfl⟩
theorem d15_0 : decode jdk_43_method_25_code 0 = .ok (.aload_n 2, 1) := by decide +kernel
theorem d15_1 : decode jdk_43_method_25_code 1 = .ok (.iconst 0, 1) := by decide +kernel
theorem d15_2 : decode jdk_43_method_25_code 2 = .ok (.baload, 1) := by decide +kernel
theorem d15_3 : decode jdk_43_method_25_code 3 = .ok (.istore 5, 2) := by decide +kernel
theorem d15_5 : decode jdk_43_method_25_code 5 = .ok (.iload_n 1, 1) := by decide +kernel
theorem d15_6 : decode jdk_43_method_25_code 6 = .ok (.iload_n 3, 1) := by decide +kernel
theorem d15_7 : decode jdk_43_method_25_code 7 = .ok (.isub, 1) := by decide +kernel
theorem d15_8 : decode jdk_43_method_25_code 8 = .ok (.istore 6, 2) := by decide +kernel
theorem d15_10 : decode jdk_43_method_25_code 10 = .ok (.iload 4, 2) := by decide +kernel
theorem d15_12 : decode jdk_43_method_25_code 12 = .ok (.istore 7, 2) := by decide +kernel
theorem d15_14 : decode jdk_43_method_25_code 14 = .ok (.iload 7, 2) := by decide +kernel
theorem d15_16 : decode jdk_43_method_25_code 16 = .ok (.iload 6, 2) := by decide +kernel
theorem d15_18 : decode jdk_43_method_25_code 18 = .ok (.if_icmp .gt 101, 3) := by decide +kernel
theorem d15_119 : decode jdk_43_method_25_code 119 = .ok (.iconst (-1), 1) := by decide +kernel
theorem d15_120 : decode jdk_43_method_25_code 120 = .ok (.ireturn, 1) := by decide +kernel
theorem ef_15 (m : MethodId) (x0 : Addr) (x1 : Int32) (x2 : Addr) (x3 : Int32) (x4 : Int32) : entryFrame m #[(.ref x0), (.int x1), (.ref x2), (.int x3), (.int x4)] 11 = mkF m 0 #[.val (.ref x0), .val (.int x1), .val (.ref x2), .val (.int x3), .val (.int x4), .unset, .unset, .unset, .unset, .unset, .unset] [] := by first | (simp [entryFrame, mkF, argsToLocals, Value.category]; done) | rfl
def Q15 (Z : State) (r0 : Addr) (r2 : Addr) (kc : ClassId) (kd : ClassId) (ch : Int32) (h0 : Heap) (n0 : Nat) (v : Option Value) (h : Heap) (L : List Loc) : Prop := v = some (.int (-1 : Int32)) ∧ Fr n0 L ∧ h = h0
set_option maxRecDepth 65536 in
set_option maxHeartbeats 40000000 in
theorem rm15 (l : Launch) (Z : State) (a0 : Array Value) (hw : ∀ d ∈ tables_1, d.before a0 Z = true) (ws : List Jvm.Cond) (r0 : Addr) (r2 : Addr) (kc : ClassId) (kd : ClassId) (ch : Int32) (h0 : Heap) (n0 : Nat) (Z0 : n0 ≤ h0.size) (V_r0 : Arv Z h0 r0 kc .byte (1 : Int32) [(.int ch)] (.int (0 : Int32))) (V_r2 : Arv Z h0 r2 kd .byte (2 : Int32) [(.int (42 : Int32)), (.int (42 : Int32))] (.int (0 : Int32))) :
    MetFree l (⟨"java/lang/StringLatin1", "indexOf", "([BI[BII)I"⟩ : MethodName) (head1 (Jvm.Cond.code (⟨"java/lang/StringLatin1", "indexOf", "([BI[BII)I"⟩ : MethodName) jdk_43_method_25_code 11 (some .int) :: ws) ({ frames := 0, cells := 0, slots := 0, locals := 0 } : Room)) (fun a U => a = #[(.ref r0), (.int (1 : Int32)), (.ref r2), (.int (2 : Int32)), (.int (0 : Int32))] ∧ Z.Warmed39 U.vm ∧ U.heap = h0) (fun _ _ _ _ _ => True) (fun _ U o U' => ∃ v L, o = .returned v ∧ Q15 Z r0 r2 kc kd ch h0 n0 v U'.heap L ∧ FrameEnd U o U' L ({ frames := 0, cells := 0, slots := 0, locals := 0 } : Room).cells ({ frames := 0, cells := 0, slots := 0, locals := 0 } : Room).slots) := by
  refine MetFree.of_bodySF (plainFor_of_name pn1) hisR ?_
  intro p e s m args below meth c s₁ Bd hml0 hP hK
  obtain ⟨rfl, hZ, hh⟩ := hP
  have hx := Bd.exec
  have hby := Bd.bytes
  have hml : c.maxLocals = 11 := hml0
  have hown : s.vm.findClass "java/lang/StringLatin1" = some m.cls := findClass_of_methodNamed Bd.named
  have hnm := (name_of_methodNamed Bd.named Bd.method).1
  have X0 : Stand p l e ({ frames := 0, cells := 0, slots := 0, locals := 0 } : Room) s m #[(.ref r0), (.int (1 : Int32)), (.ref r2), (.int (2 : Int32)), (.int (0 : Int32))] below meth c s₁ [] 0 0 := Stand.of_body Bd
  have e0 : s₁.heap = h0 := by rw [← hh, Bd.state]; rfl
  have N0 := Fr.nil n0
  have pre0 : ∀ t, Steps p.tables e below (s₁.setTop (mkF m 0 #[rv r0, iv (1 : Int32), rv r2, iv (2 : Int32), iv (0 : Int32), .unset, .unset, .unset, .unset, .unset, .unset] [])) t → Steps p.tables e below (s₁.setTop (entryFrame m #[(.ref r0), (.int (1 : Int32)), (.ref r2), (.int (2 : Int32)), (.int (0 : Int32))] 11)) t := fun t k => castTop (ef_15 m r0 (1 : Int32) r2 (2 : Int32) (0 : Int32)) k
  obtain ⟨cl1, Ar1, q1, S1, M1, H1, G1⟩ := id V_r2
  have hin1 : ¬ ((0 : Int32) < 0 ∨ cl1.slots.size ≤ ((0 : Int32)).toNatClampNeg) := inb_of S1 ⟨by decide, by decide⟩
  have hat1 : cl1.slots[((0 : Int32)).toNatClampNeg]? = some (.int (42 : Int32)) := H1.at hin1 rfl
  have pre2 : ∀ t, Steps p.tables e below (s₁.setTop (mkF m 120 #[rv r0, iv (1 : Int32), rv r2, iv (2 : Int32), iv (0 : Int32), iv (42 : Int32), iv (-1 : Int32), iv (0 : Int32), .unset, .unset, .unset] [(.int (-1 : Int32))])) t → Steps p.tables e below (s₁.setTop (entryFrame m #[(.ref r0), (.int (1 : Int32)), (.ref r2), (.int (2 : Int32)), (.int (0 : Int32))] 11)) t := by
    intro t kt
    refine pre0 _ ?_
    show Steps p.tables e below (s₁.setTop (mkF m 0 #[rv r0, iv (1 : Int32), rv r2, iv (2 : Int32), iv (0 : Int32), .unset, .unset, .unset, .unset, .unset, .unset] [])) _
    refine XS.aloadN X0.here hx rfl (hb hby d15_0) rfl rfl ?_
    refine XS.iconst X0.here hx rfl (hb hby d15_1) ?_
    refine X0.baloadBytes hx (j := (0 : Int32)) (v := (.int (42 : Int32))) (by rw [e0]; exact Ar1.1) (State.isArrayOf_alike hZ.alike Ar1.2.1) Ar1.2.2 hin1 hat1 (g := (mkF m 2 #[rv r0, iv (1 : Int32), rv r2, iv (2 : Int32), iv (0 : Int32), .unset, .unset, .unset, .unset, .unset, .unset] [(.int (0 : Int32)), (.ref r2)])) rfl rfl (hb hby d15_2) _ ?_
    show Steps p.tables e below (s₁.setTop (mkF m 3 #[rv r0, iv (1 : Int32), rv r2, iv (2 : Int32), iv (0 : Int32), .unset, .unset, .unset, .unset, .unset, .unset] [(.int (42 : Int32))])) _
    refine XS.istore X0.here hx rfl (hb hby d15_3) rfl (l' := #[rv r0, iv (1 : Int32), rv r2, iv (2 : Int32), iv (0 : Int32), iv (42 : Int32), .unset, .unset, .unset, .unset, .unset]) rfl ?_
    refine XS.iloadN X0.here hx rfl (hb hby d15_5) rfl ?_
    refine XS.iloadN X0.here hx rfl (hb hby d15_6) rfl ?_
    refine XS.isub X0.here hx rfl (hb hby d15_7) rfl ?_
    show Steps p.tables e below (s₁.setTop (mkF m 8 #[rv r0, iv (1 : Int32), rv r2, iv (2 : Int32), iv (0 : Int32), iv (42 : Int32), .unset, .unset, .unset, .unset, .unset] [(.int ((1 : Int32) - (2 : Int32)))])) _
    rw [show ((1 : Int32) - (2 : Int32)) = (-1 : Int32) from (by decide)]
    show Steps p.tables e below (s₁.setTop (mkF m 8 #[rv r0, iv (1 : Int32), rv r2, iv (2 : Int32), iv (0 : Int32), iv (42 : Int32), .unset, .unset, .unset, .unset, .unset] [(.int (-1 : Int32))])) _
    refine XS.istore X0.here hx rfl (hb hby d15_8) rfl (l' := #[rv r0, iv (1 : Int32), rv r2, iv (2 : Int32), iv (0 : Int32), iv (42 : Int32), iv (-1 : Int32), .unset, .unset, .unset, .unset]) rfl ?_
    refine XS.iload X0.here hx rfl (hb hby d15_10) rfl ?_
    refine XS.istore X0.here hx rfl (hb hby d15_12) rfl (l' := #[rv r0, iv (1 : Int32), rv r2, iv (2 : Int32), iv (0 : Int32), iv (42 : Int32), iv (-1 : Int32), iv (0 : Int32), .unset, .unset, .unset]) rfl ?_
    refine XS.iload X0.here hx rfl (hb hby d15_14) rfl ?_
    refine XS.iload X0.here hx rfl (hb hby d15_16) rfl ?_
    refine XS.icmpYes X0.here hx rfl (pc0 := 18) (pc' := 119) rfl (hb hby d15_18) rfl (tlt (by decide)).2.2.1 (by decide) (by decide) ?_
    refine XS.iconst X0.here hx rfl (hb hby d15_119) ?_
    exact kt
  obtain ⟨fs, hr, hrun, hended, hW, hsame⟩ := X0.leave (v := some (.int (-1 : Int32))) (fun h => by rw [Bd.returns] at h; cases h)
  refine ⟨_, _, pre2 _ ?_, hrun, hended, _, _, rfl, ?_, ⟨_, rfl⟩, hW, hsame.mono (by decide) (by decide)⟩
  · show Steps p.tables e below (s₁.setTop (mkF m 120 #[rv r0, iv (1 : Int32), rv r2, iv (2 : Int32), iv (0 : Int32), iv (42 : Int32), iv (-1 : Int32), iv (0 : Int32), .unset, .unset, .unset] [(.int (-1 : Int32))])) _
    exact retI X0 hx Bd.returns (hb hby d15_120) hr
  · show Q15 Z r0 r2 kc kd ch h0 n0 _ s₁.heap _
    rw [e0]
    exact ⟨rfl, N0, rfl⟩
theorem d14_0 : decode jdk_43_method_24_code 0 = .ok (.aload_n 1, 1) := by decide +kernel
theorem d14_1 : decode jdk_43_method_24_code 1 = .ok (.arraylength, 1) := by decide +kernel
theorem d14_2 : decode jdk_43_method_24_code 2 = .ok (.ifCond .ne 5, 3) := by decide +kernel
theorem d14_7 : decode jdk_43_method_24_code 7 = .ok (.aload_n 0, 1) := by decide +kernel
theorem d14_8 : decode jdk_43_method_24_code 8 = .ok (.arraylength, 1) := by decide +kernel
theorem d14_9 : decode jdk_43_method_24_code 9 = .ok (.ifCond .ne 5, 3) := by decide +kernel
theorem d14_14 : decode jdk_43_method_24_code 14 = .ok (.aload_n 0, 1) := by decide +kernel
theorem d14_15 : decode jdk_43_method_24_code 15 = .ok (.aload_n 0, 1) := by decide +kernel
theorem d14_16 : decode jdk_43_method_24_code 16 = .ok (.arraylength, 1) := by decide +kernel
theorem d14_17 : decode jdk_43_method_24_code 17 = .ok (.aload_n 1, 1) := by decide +kernel
theorem d14_18 : decode jdk_43_method_24_code 18 = .ok (.aload_n 1, 1) := by decide +kernel
theorem d14_19 : decode jdk_43_method_24_code 19 = .ok (.arraylength, 1) := by decide +kernel
theorem d14_20 : decode jdk_43_method_24_code 20 = .ok (.iconst 0, 1) := by decide +kernel
theorem pd12 : parseMethodDescriptor "([BI[BII)I" = some ⟨[(.array .byte), .int, (.array .byte), .int, .int], some .int⟩ := by decide +kernel
theorem d14_21 : decode jdk_43_method_24_code 21 = .ok (.invokestatic 99, 3) := by decide +kernel
theorem d14_24 : decode jdk_43_method_24_code 24 = .ok (.ireturn, 1) := by decide +kernel
theorem ef_14 (m : MethodId) (x0 : Addr) (x1 : Addr) : entryFrame m #[(.ref x0), (.ref x1)] 2 = mkF m 0 #[.val (.ref x0), .val (.ref x1)] [] := by first | (simp [entryFrame, mkF, argsToLocals, Value.category]; done) | rfl
def Q14 (Z : State) (r0 : Addr) (r1 : Addr) (kc : ClassId) (kd : ClassId) (ch : Int32) (h0 : Heap) (n0 : Nat) (v : Option Value) (h : Heap) (L : List Loc) : Prop := v = some (.int (-1 : Int32)) ∧ Fr n0 L ∧ h = h0
set_option maxRecDepth 65536 in
set_option maxHeartbeats 40000000 in
theorem rm14 (l : Launch) (Z : State) (a0 : Array Value) (hw : ∀ d ∈ tables_1, d.before a0 Z = true) (ws : List Jvm.Cond) (r0 : Addr) (r1 : Addr) (kc : ClassId) (kd : ClassId) (ch : Int32) (h0 : Heap) (n0 : Nat) (Z0 : n0 ≤ h0.size) (V_r0 : Arv Z h0 r0 kc .byte (1 : Int32) [(.int ch)] (.int (0 : Int32))) (V_r1 : Arv Z h0 r1 kd .byte (2 : Int32) [(.int (42 : Int32)), (.int (42 : Int32))] (.int (0 : Int32))) :
    MetFree l (⟨"java/lang/StringLatin1", "indexOf", "([B[B)I"⟩ : MethodName) (head1 (Jvm.Cond.code (⟨"java/lang/StringLatin1", "indexOf", "([B[B)I"⟩ : MethodName) jdk_43_method_24_code 2 (some .int) :: ws) ({ frames := 1, cells := 0, slots := 0, locals := 22 } : Room)) (fun a U => a = #[(.ref r0), (.ref r1)] ∧ Z.Warmed39 U.vm ∧ U.heap = h0) (fun _ _ _ _ _ => True) (fun _ U o U' => ∃ v L, o = .returned v ∧ Q14 Z r0 r1 kc kd ch h0 n0 v U'.heap L ∧ FrameEnd U o U' L ({ frames := 1, cells := 0, slots := 0, locals := 22 } : Room).cells ({ frames := 1, cells := 0, slots := 0, locals := 22 } : Room).slots) := by
  refine MetFree.of_bodySF (plainFor_of_name pn1) hisR ?_
  intro p e s m args below meth c s₁ Bd hml0 hP hK
  obtain ⟨rfl, hZ, hh⟩ := hP
  have hx := Bd.exec
  have hby := Bd.bytes
  have hml : c.maxLocals = 2 := hml0
  have hown : s.vm.findClass "java/lang/StringLatin1" = some m.cls := findClass_of_methodNamed Bd.named
  have hnm := (name_of_methodNamed Bd.named Bd.method).1
  have X0 : Stand p l e ({ frames := 1, cells := 0, slots := 0, locals := 22 } : Room) s m #[(.ref r0), (.ref r1)] below meth c s₁ [] 0 0 := Stand.of_body Bd
  have e0 : s₁.heap = h0 := by rw [← hh, Bd.state]; rfl
  have N0 := Fr.nil n0
  have pre0 : ∀ t, Steps p.tables e below (s₁.setTop (mkF m 0 #[rv r0, rv r1] [])) t → Steps p.tables e below (s₁.setTop (entryFrame m #[(.ref r0), (.ref r1)] 2)) t := fun t k => castTop (ef_14 m r0 r1) k
  obtain ⟨cl1, Ar1, -, S1, M1, -, -⟩ := id V_r1
  obtain ⟨cl2, Ar2, -, S2, M2, -, -⟩ := id V_r0
  obtain ⟨cl3, Ar3, -, S3, M3, -, -⟩ := id V_r0
  obtain ⟨cl4, Ar4, -, S4, M4, -, -⟩ := id V_r1
  have pre5 : ∀ t, Steps p.tables e below (s₁.setTop (mkF m 21 #[rv r0, rv r1] [(.int (0 : Int32)), (.int (2 : Int32)), (.ref r1), (.int (1 : Int32)), (.ref r0)])) t → Steps p.tables e below (s₁.setTop (entryFrame m #[(.ref r0), (.ref r1)] 2)) t := by
    intro t kt
    refine pre0 _ ?_
    show Steps p.tables e below (s₁.setTop (mkF m 0 #[rv r0, rv r1] [])) _
    refine XS.aloadN X0.here hx rfl (hb hby d14_0) rfl rfl ?_
    refine X0.arraylength hx (by rw [e0]; exact Ar1.1) (State.isArrayOf_alike hZ.alike Ar1.2.1) (g := (mkF m 1 #[rv r0, rv r1] [(.ref r1)])) rfl rfl (hb hby d14_1) _ ?_
    rw [len_of S1 M1]
    show Steps p.tables e below (s₁.setTop (mkF m 2 #[rv r0, rv r1] [(.int (2 : Int32))])) _
    refine XS.ifYes X0.here hx rfl (pc0 := 2) (pc' := 7) rfl (hb hby d14_2) rfl ((if0 _ _).trans (feq (by decide)).2) (by decide) (by decide) ?_
    refine XS.aloadN X0.here hx rfl (hb hby d14_7) rfl rfl ?_
    refine X0.arraylength hx (by rw [e0]; exact Ar2.1) (State.isArrayOf_alike hZ.alike Ar2.2.1) (g := (mkF m 8 #[rv r0, rv r1] [(.ref r0)])) rfl rfl (hb hby d14_8) _ ?_
    rw [len_of S2 M2]
    show Steps p.tables e below (s₁.setTop (mkF m 9 #[rv r0, rv r1] [(.int (1 : Int32))])) _
    refine XS.ifYes X0.here hx rfl (pc0 := 9) (pc' := 14) rfl (hb hby d14_9) rfl ((if0 _ _).trans (feq (by decide)).2) (by decide) (by decide) ?_
    refine XS.aloadN X0.here hx rfl (hb hby d14_14) rfl rfl ?_
    refine XS.aloadN X0.here hx rfl (hb hby d14_15) rfl rfl ?_
    refine X0.arraylength hx (by rw [e0]; exact Ar3.1) (State.isArrayOf_alike hZ.alike Ar3.2.1) (g := (mkF m 16 #[rv r0, rv r1] [(.ref r0), (.ref r0)])) rfl rfl (hb hby d14_16) _ ?_
    rw [len_of S3 M3]
    show Steps p.tables e below (s₁.setTop (mkF m 17 #[rv r0, rv r1] [(.int (1 : Int32)), (.ref r0)])) _
    refine XS.aloadN X0.here hx rfl (hb hby d14_17) rfl rfl ?_
    refine XS.aloadN X0.here hx rfl (hb hby d14_18) rfl rfl ?_
    refine X0.arraylength hx (by rw [e0]; exact Ar4.1) (State.isArrayOf_alike hZ.alike Ar4.2.1) (g := (mkF m 19 #[rv r0, rv r1] [(.ref r1), (.ref r1), (.int (1 : Int32)), (.ref r0)])) rfl rfl (hb hby d14_19) _ ?_
    rw [len_of S4 M4]
    show Steps p.tables e below (s₁.setTop (mkF m 20 #[rv r0, rv r1] [(.int (2 : Int32)), (.ref r1), (.int (1 : Int32)), (.ref r0)])) _
    refine XS.iconst X0.here hx rfl (hb hby d14_20) ?_
    exact kt
  obtain ⟨_, _, ⟨T6, L6, k6, n6⟩, -, X6, ⟨Lc6, hQ6, l6, y6, z6⟩, st6⟩ := Jvm.LawKit.callS X0 hx (y := (⟨"java/lang/StringLatin1", "indexOf", "([BI[BII)I"⟩ : MethodName)) hown (mvT hZ (hw _ (List.mem_of_getElem? (i := 72) rfl))) (mvT hZ (hw _ (List.mem_of_getElem? (i := 73) rfl))) (mvT hZ (hw _ (List.mem_of_getElem? (i := 12) rfl))) (mvT hZ (hw _ (List.mem_of_getElem? (i := 74) rfl))) (by decide) (backOf (W := 0) (rm15 l Z a0 hw [] r0 r1 kc kd ch h0 n0 (Nat.le_trans Z0 (Keep.refl h0 []).1) V_r0 V_r1) hZ (hw _ (List.mem_of_getElem? (i := 74) rfl)) (hw _ (List.mem_of_getElem? (i := 12) rfl)) (by decide) (by decide)) (g := (mkF m 21 #[rv r0, rv r1] [(.int (0 : Int32)), (.int (2 : Int32)), (.ref r1), (.int (1 : Int32)), (.ref r0)])) rfl (by rw [hml]; rfl) (argsL := [(.ref r0), (.int (1 : Int32)), (.ref r1), (.int (2 : Int32)), (.int (0 : Int32))]) (rest := []) (lenOf pd12 rfl) rfl (by show 2 * 0 + _ ≤ _; exact Nat.le_of_eq rfl) (hb hby d14_21) (fun _ _ => ⟨rfl, e0, (by decide : 0 + 0 ≤ _), (by decide : 0 + 0 ≤ _)⟩)
  dsimp only [Pt.U, Pt.locs, Pt.cells, Pt.slots] at X6 l6 y6 z6 st6 hQ6
  subst l6 y6 z6
  obtain ⟨rfl, N6q, hh6⟩ := hQ6
  have N6 := Fr.app N0 N6q
  have pre7 : ∀ t, Steps p.tables e below (T6.setTop (mkF m 24 #[rv r0, rv r1] [(.int (-1 : Int32))])) t → Steps p.tables e below (s₁.setTop (entryFrame m #[(.ref r0), (.ref r1)] 2)) t := by
    intro t kt
    refine pre5 _ ?_
    show Steps p.tables e below (s₁.setTop (mkF m 21 #[rv r0, rv r1] [(.int (0 : Int32)), (.int (2 : Int32)), (.ref r1), (.int (1 : Int32)), (.ref r0)])) _
    refine st6 _ ?_
    exact kt
  obtain ⟨fs, hr, hrun, hended, hW, hsame⟩ := X6.leave (v := some (.int (-1 : Int32))) (fun h => by rw [Bd.returns] at h; cases h)
  refine ⟨_, _, pre7 _ ?_, hrun, hended, _, _, rfl, ?_, ⟨_, rfl⟩, hW, hsame.mono (by decide) (by decide)⟩
  · show Steps p.tables e below (T6.setTop (mkF m 24 #[rv r0, rv r1] [(.int (-1 : Int32))])) _
    exact retI X6 hx Bd.returns (hb hby d14_24) hr
  · show Q14 Z r0 r1 kc kd ch h0 n0 _ T6.heap _
    rw [hh6]
    exact ⟨rfl, N6, rfl⟩
theorem d11_0 : decode jdk_42_method_84_code 0 = .ok (.aload_n 0, 1) := by decide +kernel
theorem d11_1 : decode jdk_42_method_84_code 1 = .ok (.invokevirtual 335, 3) := by decide +kernel
theorem d11_4 : decode jdk_42_method_84_code 4 = .ok (.istore_n 2, 1) := by decide +kernel
theorem d11_5 : decode jdk_42_method_84_code 5 = .ok (.iload_n 2, 1) := by decide +kernel
theorem d11_6 : decode jdk_42_method_84_code 6 = .ok (.aload_n 1, 1) := by decide +kernel
theorem d11_7 : decode jdk_42_method_84_code 7 = .ok (.invokevirtual 335, 3) := by decide +kernel
theorem d11_10 : decode jdk_42_method_84_code 10 = .ok (.if_icmp .ne 36, 3) := by decide +kernel
theorem d11_13 : decode jdk_42_method_84_code 13 = .ok (.aload_n 0, 1) := by decide +kernel
theorem d11_14 : decode jdk_42_method_84_code 14 = .ok (.invokevirtual 492, 3) := by decide +kernel
theorem d11_17 : decode jdk_42_method_84_code 17 = .ok (.ifCond .eq 17, 3) := by decide +kernel
theorem d11_20 : decode jdk_42_method_84_code 20 = .ok (.aload_n 0, 1) := by decide +kernel
theorem d11_21 : decode jdk_42_method_84_code 21 = .ok (.getfield 9, 3) := by decide +kernel
theorem d11_24 : decode jdk_42_method_84_code 24 = .ok (.aload_n 1, 1) := by decide +kernel
theorem d11_25 : decode jdk_42_method_84_code 25 = .ok (.getfield 9, 3) := by decide +kernel
theorem pd13 : parseMethodDescriptor "([B[B)I" = some ⟨[(.array .byte), (.array .byte)], some .int⟩ := by decide +kernel
theorem d11_28 : decode jdk_42_method_84_code 28 = .ok (.invokestatic 647, 3) := by decide +kernel
theorem d11_31 : decode jdk_42_method_84_code 31 = .ok (.goto 14, 3) := by decide +kernel
theorem d11_45 : decode jdk_42_method_84_code 45 = .ok (.ireturn, 1) := by decide +kernel
theorem ef_11 (m : MethodId) (x0 : Addr) (x1 : Addr) : entryFrame m #[(.ref x0), (.ref x1)] 3 = mkF m 0 #[.val (.ref x0), .val (.ref x1), .unset] [] := by first | (simp [entryFrame, mkF, argsToLocals, Value.category]; done) | rfl
def Q11 (Z : State) (r0 : Addr) (r1 : Addr) (va : Addr) (kc : ClassId) (ch : Int32) (vb : Addr) (kd : ClassId) (cs : Int32) (h0 : Heap) (n0 : Nat) (v : Option Value) (h : Heap) (L : List Loc) : Prop := v = some (.int (-1 : Int32)) ∧ Fr n0 L ∧ h = h0
set_option maxRecDepth 65536 in
set_option maxHeartbeats 40000000 in
theorem rm11 (l : Launch) (Z : State) (a0 : Array Value) (hw : ∀ d ∈ tables_1, d.before a0 Z = true) (ws : List Jvm.Cond) (r0 : Addr) (r1 : Addr) (va : Addr) (kc : ClassId) (ch : Int32) (vb : Addr) (kd : ClassId) (cs : Int32) (h0 : Heap) (n0 : Nat) (Z0 : n0 ≤ h0.size) (F_value_r0 : Fld Z h0 r0 "java/lang/String" "value" "[B" (.ref va)) (F_coder_r0 : Fld Z h0 r0 "java/lang/String" "coder" "B" (.int (0 : Int32))) (E_r0 : Exa Z h0 r0 "java/lang/String") (V_va : Arv Z h0 va kc .byte (1 : Int32) [(.int ch)] (.int (0 : Int32))) (F_value_r1 : Fld Z h0 r1 "java/lang/String" "value" "[B" (.ref vb)) (F_coder_r1 : Fld Z h0 r1 "java/lang/String" "coder" "B" (.int (0 : Int32))) (E_r1 : Exa Z h0 r1 "java/lang/String") (V_vb : Arv Z h0 vb kd .byte (2 : Int32) [(.int (42 : Int32)), (.int (42 : Int32))] (.int (0 : Int32))) (O0 : Old Z n0 h0) (S_cs : Sta Z Z.heap "java/lang/String" "COMPACT_STRINGS" "Z" (.int cs)) (hcs : ¬ (cs = (0 : Int32))) :
    MetFree l (⟨"java/lang/String", "indexOf", "(Ljava/lang/String;)I"⟩ : MethodName) (head1 (Jvm.Cond.code (⟨"java/lang/String", "indexOf", "(Ljava/lang/String;)I"⟩ : MethodName) jdk_42_method_84_code 3 (some .int) :: ws) ({ frames := 2, cells := 0, slots := 0, locals := 35 } : Room)) (fun a U => a = #[(.ref r0), (.ref r1)] ∧ Z.Warmed39 U.vm ∧ U.heap = h0) (fun _ _ _ _ _ => True) (fun _ U o U' => ∃ v L, o = .returned v ∧ Q11 Z r0 r1 va kc ch vb kd cs h0 n0 v U'.heap L ∧ FrameEnd U o U' L ({ frames := 2, cells := 0, slots := 0, locals := 35 } : Room).cells ({ frames := 2, cells := 0, slots := 0, locals := 35 } : Room).slots) := by
  refine MetFree.of_bodySF (plainFor_of_name pn2) hisR ?_
  intro p e s m args below meth c s₁ Bd hml0 hP hK
  obtain ⟨rfl, hZ, hh⟩ := hP
  have hx := Bd.exec
  have hby := Bd.bytes
  have hml : c.maxLocals = 3 := hml0
  have hown : s.vm.findClass "java/lang/String" = some m.cls := findClass_of_methodNamed Bd.named
  have hnm := (name_of_methodNamed Bd.named Bd.method).1
  have X0 : Stand p l e ({ frames := 2, cells := 0, slots := 0, locals := 35 } : Room) s m #[(.ref r0), (.ref r1)] below meth c s₁ [] 0 0 := Stand.of_body Bd
  have e0 : s₁.heap = h0 := by rw [← hh, Bd.state]; rfl
  have N0 := Fr.nil n0
  have pre0 : ∀ t, Steps p.tables e below (s₁.setTop (mkF m 0 #[rv r0, rv r1, .unset] [])) t → Steps p.tables e below (s₁.setTop (entryFrame m #[(.ref r0), (.ref r1)] 3)) t := fun t k => castTop (ef_11 m r0 r1) k
  have pre1 : ∀ t, Steps p.tables e below (s₁.setTop (mkF m 1 #[rv r0, rv r1, .unset] [(.ref r0)])) t → Steps p.tables e below (s₁.setTop (entryFrame m #[(.ref r0), (.ref r1)] 3)) t := by
    intro t kt
    refine pre0 _ ?_
    show Steps p.tables e below (s₁.setTop (mkF m 0 #[rv r0, rv r1, .unset] [])) _
    refine XS.aloadN X0.here hx rfl (hb hby d11_0) rfl rfl ?_
    exact kt
  obtain ⟨cq2, kq2, q2a, q2b, q2c⟩ := isOf hZ e0 E_r0
  obtain ⟨_, _, ⟨T2, L2, k2, n2⟩, -, X2, ⟨Lc2, hQ2, l2, y2, z2⟩, st2⟩ := X0.virtualBack hx (y := (⟨"java/lang/String", "coder", "()B"⟩ : MethodName)) (z := (⟨"java/lang/String", "coder", "()B"⟩ : MethodName)) hown (mvT hZ (hw _ (List.mem_of_getElem? (i := 59) rfl))) (mvT hZ (hw _ (List.mem_of_getElem? (i := 60) rfl))) (notFace_of_selects (args := #[]) (mvT hZ (hw _ (List.mem_of_getElem? (i := 62) rfl)))) (mvT hZ (hw _ (List.mem_of_getElem? (i := 62) rfl))) (mvT hZ (hw _ (List.mem_of_getElem? (i := 61) rfl))) (by decide) (backOf (W := 0) (rm12 l Z a0 hw [] r0 va cs h0 n0 (Nat.le_trans Z0 (Keep.refl h0 []).1) (O0.keep (Keep.refl h0 []) all0) S_cs hcs F_value_r0 F_coder_r0 E_r0) hZ (hw _ (List.mem_of_getElem? (i := 63) rfl)) (hw _ (List.mem_of_getElem? (i := 7) rfl)) (by decide) (by decide)) q2a q2c (g := (mkF m 1 #[rv r0, rv r1, .unset] [(.ref r0)])) rfl (by rw [hml]; rfl) (Steps.refl _) (argsL := []) (rest := []) (lenOf pd6 rfl) rfl (by show 2 * 0 + _ ≤ _; exact Nat.le_of_eq rfl) (hb hby d11_1) (fun _ _ => ⟨rfl, e0, (by decide : 0 + 0 ≤ _), (by decide : 0 + 0 ≤ _)⟩)
  dsimp only [Pt.U, Pt.locs, Pt.cells, Pt.slots] at X2 l2 y2 z2 st2 hQ2
  subst l2 y2 z2
  obtain ⟨rfl, N2q, hh2⟩ := hQ2
  have N2 := Fr.app N0 N2q
  have pre3 : ∀ t, Steps p.tables e below (T2.setTop (mkF m 7 #[rv r0, rv r1, iv (0 : Int32)] [(.ref r1), (.int (0 : Int32))])) t → Steps p.tables e below (s₁.setTop (entryFrame m #[(.ref r0), (.ref r1)] 3)) t := by
    intro t kt
    refine pre1 _ ?_
    show Steps p.tables e below (s₁.setTop (mkF m 1 #[rv r0, rv r1, .unset] [(.ref r0)])) _
    refine st2.trans ?_
    show Steps p.tables e below (T2.setTop (mkF m 4 #[rv r0, rv r1, .unset] [(.int (0 : Int32))])) _
    refine XS.istoreN X2.here hx rfl (hb hby d11_4) rfl (l' := #[rv r0, rv r1, iv (0 : Int32)]) rfl ?_
    refine XS.iloadN X2.here hx rfl (hb hby d11_5) rfl ?_
    refine XS.aloadN X2.here hx rfl (hb hby d11_6) rfl rfl ?_
    exact kt
  obtain ⟨cq4, kq4, q4a, q4b, q4c⟩ := isOf hZ hh2 E_r1
  obtain ⟨_, _, ⟨T4, L4, k4, n4⟩, -, X4, ⟨Lc4, hQ4, l4, y4, z4⟩, st4⟩ := X2.virtualBack hx (y := (⟨"java/lang/String", "coder", "()B"⟩ : MethodName)) (z := (⟨"java/lang/String", "coder", "()B"⟩ : MethodName)) hown (mvT hZ (hw _ (List.mem_of_getElem? (i := 59) rfl))) (mvT hZ (hw _ (List.mem_of_getElem? (i := 60) rfl))) (notFace_of_selects (args := #[]) (mvT hZ (hw _ (List.mem_of_getElem? (i := 62) rfl)))) (mvT hZ (hw _ (List.mem_of_getElem? (i := 62) rfl))) (mvT hZ (hw _ (List.mem_of_getElem? (i := 61) rfl))) (by decide) (backOf (W := 1) (rm12 l Z a0 hw [] r1 vb cs h0 n0 (Nat.le_trans Z0 (Keep.refl h0 []).1) (O0.keep (Keep.refl h0 []) all0) S_cs hcs F_value_r1 F_coder_r1 E_r1) hZ (hw _ (List.mem_of_getElem? (i := 63) rfl)) (hw _ (List.mem_of_getElem? (i := 7) rfl)) (by decide) (by decide)) q4a q4c (g := (mkF m 7 #[rv r0, rv r1, iv (0 : Int32)] [(.ref r1), (.int (0 : Int32))])) rfl (by rw [hml]; rfl) (Steps.refl _) (argsL := []) (rest := [(.int (0 : Int32))]) (lenOf pd6 rfl) rfl (by show 2 * 0 + _ ≤ _; exact Nat.le_of_eq rfl) (hb hby d11_7) (fun _ _ => ⟨rfl, hh2, (by decide : 0 + 0 ≤ _), (by decide : 0 + 0 ≤ _)⟩)
  dsimp only [Pt.U, Pt.locs, Pt.cells, Pt.slots] at X4 l4 y4 z4 st4 hQ4
  subst l4 y4 z4
  obtain ⟨rfl, N4q, hh4⟩ := hQ4
  have N4 := Fr.app N2 N4q
  have pre5 : ∀ t, Steps p.tables e below (T4.setTop (mkF m 14 #[rv r0, rv r1, iv (0 : Int32)] [(.ref r0)])) t → Steps p.tables e below (s₁.setTop (entryFrame m #[(.ref r0), (.ref r1)] 3)) t := by
    intro t kt
    refine pre3 _ ?_
    show Steps p.tables e below (T2.setTop (mkF m 7 #[rv r0, rv r1, iv (0 : Int32)] [(.ref r1), (.int (0 : Int32))])) _
    refine st4.trans ?_
    show Steps p.tables e below (T4.setTop (mkF m 10 #[rv r0, rv r1, iv (0 : Int32)] [(.int (0 : Int32)), (.int (0 : Int32))])) _
    refine XS.icmpNo X4.here hx rfl (hb hby d11_10) rfl (teq (by decide)).2 ?_
    refine XS.aloadN X4.here hx rfl (hb hby d11_13) rfl rfl ?_
    exact kt
  obtain ⟨cq6, kq6, q6a, q6b, q6c⟩ := isOf hZ hh4 E_r0
  obtain ⟨_, _, ⟨T6, L6, k6, n6⟩, -, X6, ⟨Lc6, hQ6, l6, y6, z6⟩, st6⟩ := X4.virtualBack hx (y := (⟨"java/lang/String", "isLatin1", "()Z"⟩ : MethodName)) (z := (⟨"java/lang/String", "isLatin1", "()Z"⟩ : MethodName)) hown (mvT hZ (hw _ (List.mem_of_getElem? (i := 64) rfl))) (mvT hZ (hw _ (List.mem_of_getElem? (i := 65) rfl))) (notFace_of_selects (args := #[]) (mvT hZ (hw _ (List.mem_of_getElem? (i := 67) rfl)))) (mvT hZ (hw _ (List.mem_of_getElem? (i := 67) rfl))) (mvT hZ (hw _ (List.mem_of_getElem? (i := 66) rfl))) (by decide) (backOf (W := 0) (rm13 l Z a0 hw [] r0 va cs h0 n0 (Nat.le_trans Z0 (Keep.refl h0 []).1) (O0.keep (Keep.refl h0 []) all0) S_cs hcs F_value_r0 F_coder_r0 E_r0) hZ (hw _ (List.mem_of_getElem? (i := 68) rfl)) (hw _ (List.mem_of_getElem? (i := 7) rfl)) (by decide) (by decide)) q6a q6c (g := (mkF m 14 #[rv r0, rv r1, iv (0 : Int32)] [(.ref r0)])) rfl (by rw [hml]; rfl) (Steps.refl _) (argsL := []) (rest := []) (lenOf pd10 rfl) rfl (by show 2 * 0 + _ ≤ _; exact Nat.le_of_eq rfl) (hb hby d11_14) (fun _ _ => ⟨rfl, hh4, (by decide : 0 + 0 ≤ _), (by decide : 0 + 0 ≤ _)⟩)
  dsimp only [Pt.U, Pt.locs, Pt.cells, Pt.slots] at X6 l6 y6 z6 st6 hQ6
  subst l6 y6 z6
  obtain ⟨rfl, N6q, hh6⟩ := hQ6
  have N6 := Fr.app N4 N6q
  have pre7 : ∀ t, Steps p.tables e below (T6.setTop (mkF m 21 #[rv r0, rv r1, iv (0 : Int32)] [(.ref r0)])) t → Steps p.tables e below (s₁.setTop (entryFrame m #[(.ref r0), (.ref r1)] 3)) t := by
    intro t kt
    refine pre5 _ ?_
    show Steps p.tables e below (T4.setTop (mkF m 14 #[rv r0, rv r1, iv (0 : Int32)] [(.ref r0)])) _
    refine st6.trans ?_
    show Steps p.tables e below (T6.setTop (mkF m 17 #[rv r0, rv r1, iv (0 : Int32)] [(.int (1 : Int32))])) _
    refine XS.ifNo X6.here hx rfl (hb hby d11_17) rfl ((if0 _ _).trans (feq (by decide)).1) ?_
    refine XS.aloadN X6.here hx rfl (hb hby d11_20) rfl rfl ?_
    exact kt
  obtain ⟨T8, X8, e8, st8⟩ := getF X6 hx hZ hown (host := "") (Or.inl (hw _ (List.mem_of_getElem? (i := 27) rfl))) Via.refl hh6 F_value_r0 (g := (mkF m 21 #[rv r0, rv r1, iv (0 : Int32)] [(.ref r0)])) rfl rfl (hb hby d11_21)
  have pre9 : ∀ t, Steps p.tables e below (T8.setTop (mkF m 25 #[rv r0, rv r1, iv (0 : Int32)] [(.ref r1), (.ref va)])) t → Steps p.tables e below (s₁.setTop (entryFrame m #[(.ref r0), (.ref r1)] 3)) t := by
    intro t kt
    refine pre7 _ ?_
    show Steps p.tables e below (T6.setTop (mkF m 21 #[rv r0, rv r1, iv (0 : Int32)] [(.ref r0)])) _
    refine st8 _ ?_
    show Steps p.tables e below (T8.setTop (mkF m 24 #[rv r0, rv r1, iv (0 : Int32)] [(.ref va)])) _
    refine XS.aloadN X8.here hx rfl (hb hby d11_24) rfl rfl ?_
    exact kt
  obtain ⟨T10, X10, e10, st10⟩ := getF X8 hx hZ hown (host := "") (Or.inl (hw _ (List.mem_of_getElem? (i := 27) rfl))) Via.refl e8 F_value_r1 (g := (mkF m 25 #[rv r0, rv r1, iv (0 : Int32)] [(.ref r1), (.ref va)])) rfl rfl (hb hby d11_25)
  have pre11 : ∀ t, Steps p.tables e below (T10.setTop (mkF m 28 #[rv r0, rv r1, iv (0 : Int32)] [(.ref vb), (.ref va)])) t → Steps p.tables e below (s₁.setTop (entryFrame m #[(.ref r0), (.ref r1)] 3)) t := by
    intro t kt
    refine pre9 _ ?_
    show Steps p.tables e below (T8.setTop (mkF m 25 #[rv r0, rv r1, iv (0 : Int32)] [(.ref r1), (.ref va)])) _
    refine st10 _ ?_
    exact kt
  obtain ⟨_, _, ⟨T12, L12, k12, n12⟩, -, X12, ⟨Lc12, hQ12, l12, y12, z12⟩, st12⟩ := Jvm.LawKit.callS X10 hx (y := (⟨"java/lang/StringLatin1", "indexOf", "([B[B)I"⟩ : MethodName)) hown (mvT hZ (hw _ (List.mem_of_getElem? (i := 69) rfl))) (mvT hZ (hw _ (List.mem_of_getElem? (i := 70) rfl))) (mvT hZ (hw _ (List.mem_of_getElem? (i := 12) rfl))) (mvT hZ (hw _ (List.mem_of_getElem? (i := 71) rfl))) (by decide) (backOf (W := 0) (rm14 l Z a0 hw [] va vb kc kd ch h0 n0 (Nat.le_trans Z0 (Keep.refl h0 []).1) V_va V_vb) hZ (hw _ (List.mem_of_getElem? (i := 71) rfl)) (hw _ (List.mem_of_getElem? (i := 12) rfl)) (by decide) (by decide)) (g := (mkF m 28 #[rv r0, rv r1, iv (0 : Int32)] [(.ref vb), (.ref va)])) rfl (by rw [hml]; rfl) (argsL := [(.ref va), (.ref vb)]) (rest := []) (lenOf pd13 rfl) rfl (by show 2 * 0 + _ ≤ _; exact Nat.le_of_eq rfl) (hb hby d11_28) (fun _ _ => ⟨rfl, e10, (by decide : 0 + 0 ≤ _), (by decide : 0 + 0 ≤ _)⟩)
  dsimp only [Pt.U, Pt.locs, Pt.cells, Pt.slots] at X12 l12 y12 z12 st12 hQ12
  subst l12 y12 z12
  obtain ⟨rfl, N12q, hh12⟩ := hQ12
  have N12 := Fr.app N6 N12q
  have pre13 : ∀ t, Steps p.tables e below (T12.setTop (mkF m 45 #[rv r0, rv r1, iv (0 : Int32)] [(.int (-1 : Int32))])) t → Steps p.tables e below (s₁.setTop (entryFrame m #[(.ref r0), (.ref r1)] 3)) t := by
    intro t kt
    refine pre11 _ ?_
    show Steps p.tables e below (T10.setTop (mkF m 28 #[rv r0, rv r1, iv (0 : Int32)] [(.ref vb), (.ref va)])) _
    refine st12 _ ?_
    show Steps p.tables e below (T12.setTop (mkF m 31 #[rv r0, rv r1, iv (0 : Int32)] [(.int (-1 : Int32))])) _
    refine XS.goto X12.here hx rfl (pc0 := 31) (pc' := 45) rfl (hb hby d11_31) (by decide) (by decide) ?_
    exact kt
  obtain ⟨fs, hr, hrun, hended, hW, hsame⟩ := X12.leave (v := some (.int (-1 : Int32))) (fun h => by rw [Bd.returns] at h; cases h)
  refine ⟨_, _, pre13 _ ?_, hrun, hended, _, _, rfl, ?_, ⟨_, rfl⟩, hW, hsame.mono (by decide) (by decide)⟩
  · show Steps p.tables e below (T12.setTop (mkF m 45 #[rv r0, rv r1, iv (0 : Int32)] [(.int (-1 : Int32))])) _
    exact retI X12 hx Bd.returns (hb hby d11_45) hr
  · show Q11 Z r0 r1 va kc ch vb kd cs h0 n0 _ T12.heap _
    rw [hh12]
    exact ⟨rfl, N12, rfl⟩
theorem d9_0 : decode jdk_42_method_97_code 0 = .ok (.aload_n 0, 1) := by decide +kernel
theorem d9_1 : decode jdk_42_method_97_code 1 = .ok (.aload_n 1, 1) := by decide +kernel
theorem pd14 : parseMethodDescriptor "()Ljava/lang/String;" = some ⟨[], some (.object "java/lang/String")⟩ := by decide +kernel
theorem d9_2 : decode jdk_42_method_97_code 2 = .ok (.invokeinterface 710 1, 5) := by decide +kernel
theorem pd15 : parseMethodDescriptor "(Ljava/lang/String;)I" = some ⟨[(.object "java/lang/String")], some .int⟩ := by decide +kernel
theorem d9_7 : decode jdk_42_method_97_code 7 = .ok (.invokevirtual 711, 3) := by decide +kernel
theorem d9_10 : decode jdk_42_method_97_code 10 = .ok (.ifCond .lt 7, 3) := by decide +kernel
theorem d9_17 : decode jdk_42_method_97_code 17 = .ok (.iconst 0, 1) := by decide +kernel
theorem d9_18 : decode jdk_42_method_97_code 18 = .ok (.ireturn, 1) := by decide +kernel
theorem ef_9 (m : MethodId) (x0 : Addr) (x1 : Addr) : entryFrame m #[(.ref x0), (.ref x1)] 2 = mkF m 0 #[.val (.ref x0), .val (.ref x1)] [] := by first | (simp [entryFrame, mkF, argsToLocals, Value.category]; done) | rfl
def Q9 (Z : State) (r0 : Addr) (r1 : Addr) (va : Addr) (kc : ClassId) (ch : Int32) (vb : Addr) (kd : ClassId) (cs : Int32) (h0 : Heap) (n0 : Nat) (v : Option Value) (h : Heap) (L : List Loc) : Prop := v = some (.int (0 : Int32)) ∧ Fr n0 L ∧ h = h0
set_option maxRecDepth 65536 in
set_option maxHeartbeats 40000000 in
theorem rm9 (l : Launch) (Z : State) (a0 : Array Value) (hw : ∀ d ∈ tables_1, d.before a0 Z = true) (ws : List Jvm.Cond) (r0 : Addr) (r1 : Addr) (va : Addr) (kc : ClassId) (ch : Int32) (vb : Addr) (kd : ClassId) (cs : Int32) (h0 : Heap) (n0 : Nat) (Z0 : n0 ≤ h0.size) (F_value_r0 : Fld Z h0 r0 "java/lang/String" "value" "[B" (.ref va)) (F_coder_r0 : Fld Z h0 r0 "java/lang/String" "coder" "B" (.int (0 : Int32))) (E_r0 : Exa Z h0 r0 "java/lang/String") (V_va : Arv Z h0 va kc .byte (1 : Int32) [(.int ch)] (.int (0 : Int32))) (F_value_r1 : Fld Z h0 r1 "java/lang/String" "value" "[B" (.ref vb)) (F_coder_r1 : Fld Z h0 r1 "java/lang/String" "coder" "B" (.int (0 : Int32))) (E_r1 : Exa Z h0 r1 "java/lang/String") (V_vb : Arv Z h0 vb kd .byte (2 : Int32) [(.int (42 : Int32)), (.int (42 : Int32))] (.int (0 : Int32))) (O0 : Old Z n0 h0) (S_cs : Sta Z Z.heap "java/lang/String" "COMPACT_STRINGS" "Z" (.int cs)) (hcs : ¬ (cs = (0 : Int32))) :
    MetFree l (⟨"java/lang/String", "contains", "(Ljava/lang/CharSequence;)Z"⟩ : MethodName) (head1 (Jvm.Cond.code (⟨"java/lang/String", "contains", "(Ljava/lang/CharSequence;)Z"⟩ : MethodName) jdk_42_method_97_code 2 (some .boolean) :: ws) ({ frames := 3, cells := 0, slots := 0, locals := 49 } : Room)) (fun a U => a = #[(.ref r0), (.ref r1)] ∧ Z.Warmed39 U.vm ∧ U.heap = h0) (fun _ _ _ _ _ => True) (fun _ U o U' => ∃ v L, o = .returned v ∧ Q9 Z r0 r1 va kc ch vb kd cs h0 n0 v U'.heap L ∧ FrameEnd U o U' L ({ frames := 3, cells := 0, slots := 0, locals := 49 } : Room).cells ({ frames := 3, cells := 0, slots := 0, locals := 49 } : Room).slots) := by
  refine MetFree.of_bodySF (plainFor_of_name pn2) hisR ?_
  intro p e s m args below meth c s₁ Bd hml0 hP hK
  obtain ⟨rfl, hZ, hh⟩ := hP
  have hx := Bd.exec
  have hby := Bd.bytes
  have hml : c.maxLocals = 2 := hml0
  have hown : s.vm.findClass "java/lang/String" = some m.cls := findClass_of_methodNamed Bd.named
  have hnm := (name_of_methodNamed Bd.named Bd.method).1
  have X0 : Stand p l e ({ frames := 3, cells := 0, slots := 0, locals := 49 } : Room) s m #[(.ref r0), (.ref r1)] below meth c s₁ [] 0 0 := Stand.of_body Bd
  have e0 : s₁.heap = h0 := by rw [← hh, Bd.state]; rfl
  have N0 := Fr.nil n0
  have pre0 : ∀ t, Steps p.tables e below (s₁.setTop (mkF m 0 #[rv r0, rv r1] [])) t → Steps p.tables e below (s₁.setTop (entryFrame m #[(.ref r0), (.ref r1)] 2)) t := fun t k => castTop (ef_9 m r0 r1) k
  have pre1 : ∀ t, Steps p.tables e below (s₁.setTop (mkF m 2 #[rv r0, rv r1] [(.ref r1), (.ref r0)])) t → Steps p.tables e below (s₁.setTop (entryFrame m #[(.ref r0), (.ref r1)] 2)) t := by
    intro t kt
    refine pre0 _ ?_
    show Steps p.tables e below (s₁.setTop (mkF m 0 #[rv r0, rv r1] [])) _
    refine XS.aloadN X0.here hx rfl (hb hby d9_0) rfl rfl ?_
    refine XS.aloadN X0.here hx rfl (hb hby d9_1) rfl rfl ?_
    exact kt
  obtain ⟨cq2, kq2, q2a, q2b, q2c⟩ := isOf hZ e0 E_r1
  obtain ⟨_, _, ⟨T2, L2, k2, n2⟩, -, X2, ⟨Lc2, hQ2, l2, y2, z2⟩, st2⟩ := X0.interfaceBack hx (xi := (⟨"java/lang/CharSequence", "toString", "()Ljava/lang/String;"⟩ : MethodName)) (y := (⟨"java/lang/String", "toString", "()Ljava/lang/String;"⟩ : MethodName)) hown (mvT hZ (hw _ (List.mem_of_getElem? (i := 45) rfl))) (mvT hZ (hw _ (List.mem_of_getElem? (i := 46) rfl))) (mvT hZ (hw _ (List.mem_of_getElem? (i := 47) rfl))) (mvT hZ (hw _ (List.mem_of_getElem? (i := 48) rfl))) (mvT hZ (hw _ (List.mem_of_getElem? (i := 49) rfl))) (mvT hZ (hw _ (List.mem_of_getElem? (i := 50) rfl))) (mvT hZ (hw _ (List.mem_of_getElem? (i := 51) rfl))) (mvT hZ (hw _ (List.mem_of_getElem? (i := 52) rfl))) (by decide) (backOf (W := 1) (rm10 l Z a0 hw [] r1 h0 n0 (Nat.le_trans Z0 (Keep.refl h0 []).1)) hZ (hw _ (List.mem_of_getElem? (i := 53) rfl)) (hw _ (List.mem_of_getElem? (i := 7) rfl)) (by decide) (by decide)) q2a q2b q2c (g := (mkF m 2 #[rv r0, rv r1] [(.ref r1), (.ref r0)])) rfl (by rw [hml]; rfl) (Steps.refl _) (argsL := []) (rest := [(.ref r0)]) (lenOf pd14 rfl) rfl (by show 2 * 0 + _ ≤ _; exact Nat.le_of_eq rfl) (hb hby d9_2) (fun _ _ => ⟨rfl, e0, (by decide : 0 + 0 ≤ _), (by decide : 0 + 0 ≤ _)⟩)
  dsimp only [Pt.U, Pt.locs, Pt.cells, Pt.slots] at X2 l2 y2 z2 st2 hQ2
  subst l2 y2 z2
  obtain ⟨rfl, N2q, hh2⟩ := hQ2
  have N2 := Fr.app N0 N2q
  have pre3 : ∀ t, Steps p.tables e below (T2.setTop (mkF m 7 #[rv r0, rv r1] [(.ref r1), (.ref r0)])) t → Steps p.tables e below (s₁.setTop (entryFrame m #[(.ref r0), (.ref r1)] 2)) t := by
    intro t kt
    refine pre1 _ ?_
    show Steps p.tables e below (s₁.setTop (mkF m 2 #[rv r0, rv r1] [(.ref r1), (.ref r0)])) _
    refine st2.trans ?_
    exact kt
  obtain ⟨cq4, kq4, q4a, q4b, q4c⟩ := isOf hZ hh2 E_r0
  obtain ⟨_, _, ⟨T4, L4, k4, n4⟩, -, X4, ⟨Lc4, hQ4, l4, y4, z4⟩, st4⟩ := X2.virtualBack hx (y := (⟨"java/lang/String", "indexOf", "(Ljava/lang/String;)I"⟩ : MethodName)) (z := (⟨"java/lang/String", "indexOf", "(Ljava/lang/String;)I"⟩ : MethodName)) hown (mvT hZ (hw _ (List.mem_of_getElem? (i := 54) rfl))) (mvT hZ (hw _ (List.mem_of_getElem? (i := 55) rfl))) (notFace_of_selects (args := #[]) (mvT hZ (hw _ (List.mem_of_getElem? (i := 57) rfl)))) (mvT hZ (hw _ (List.mem_of_getElem? (i := 57) rfl))) (mvT hZ (hw _ (List.mem_of_getElem? (i := 56) rfl))) (by decide) (backOf (W := 0) (rm11 l Z a0 hw [] r0 r1 va kc ch vb kd cs h0 n0 (Nat.le_trans Z0 (Keep.refl h0 []).1) F_value_r0 F_coder_r0 E_r0 V_va F_value_r1 F_coder_r1 E_r1 V_vb (O0.keep (Keep.refl h0 []) all0) S_cs hcs) hZ (hw _ (List.mem_of_getElem? (i := 58) rfl)) (hw _ (List.mem_of_getElem? (i := 7) rfl)) (by decide) (by decide)) q4a q4c (g := (mkF m 7 #[rv r0, rv r1] [(.ref r1), (.ref r0)])) rfl (by rw [hml]; rfl) (Steps.refl _) (argsL := [(.ref r1)]) (rest := []) (lenOf pd15 rfl) rfl (by show 2 * 0 + _ ≤ _; exact Nat.le_of_eq rfl) (hb hby d9_7) (fun _ _ => ⟨rfl, hh2, (by decide : 0 + 0 ≤ _), (by decide : 0 + 0 ≤ _)⟩)
  dsimp only [Pt.U, Pt.locs, Pt.cells, Pt.slots] at X4 l4 y4 z4 st4 hQ4
  subst l4 y4 z4
  obtain ⟨rfl, N4q, hh4⟩ := hQ4
  have N4 := Fr.app N2 N4q
  have pre5 : ∀ t, Steps p.tables e below (T4.setTop (mkF m 18 #[rv r0, rv r1] [(.int (0 : Int32))])) t → Steps p.tables e below (s₁.setTop (entryFrame m #[(.ref r0), (.ref r1)] 2)) t := by
    intro t kt
    refine pre3 _ ?_
    show Steps p.tables e below (T2.setTop (mkF m 7 #[rv r0, rv r1] [(.ref r1), (.ref r0)])) _
    refine st4.trans ?_
    show Steps p.tables e below (T4.setTop (mkF m 10 #[rv r0, rv r1] [(.int (-1 : Int32))])) _
    refine XS.ifYes X4.here hx rfl (pc0 := 10) (pc' := 17) rfl (hb hby d9_10) rfl ((if0 _ _).trans (tlt (by decide)).1) (by decide) (by decide) ?_
    refine XS.iconst X4.here hx rfl (hb hby d9_17) ?_
    exact kt
  obtain ⟨fs, hr, hrun, hended, hW, hsame⟩ := X4.leave (v := some (.int (0 : Int32))) (fun h => by rw [Bd.returns] at h; cases h)
  refine ⟨_, _, pre5 _ ?_, hrun, hended, _, _, rfl, ?_, ⟨_, rfl⟩, hW, hsame.mono (by decide) (by decide)⟩
  · show Steps p.tables e below (T4.setTop (mkF m 18 #[rv r0, rv r1] [(.int (0 : Int32))])) _
    exact retN X4 hx (t := .boolean) Bd.returns (by simp) (hb hby d9_18) hr
  · show Q9 Z r0 r1 va kc ch vb kd cs h0 n0 _ T4.heap _
    rw [hh4]
    exact ⟨rfl, N4, rfl⟩
theorem d21_0 : decode jdk_43_method_4_code 0 = .ok (.iload_n 0, 1) := by decide +kernel
theorem d21_1 : decode jdk_43_method_4_code 1 = .ok (.ifCond .lt 14, 3) := by decide +kernel
theorem d21_4 : decode jdk_43_method_4_code 4 = .ok (.iload_n 0, 1) := by decide +kernel
theorem d21_5 : decode jdk_43_method_4_code 5 = .ok (.sipush 255, 3) := by decide +kernel
theorem d21_8 : decode jdk_43_method_4_code 8 = .ok (.if_icmp .gt 7, 3) := by decide +kernel
theorem d21_11 : decode jdk_43_method_4_code 11 = .ok (.iconst 1, 1) := by decide +kernel
theorem d21_12 : decode jdk_43_method_4_code 12 = .ok (.goto 4, 3) := by decide +kernel
theorem d21_16 : decode jdk_43_method_4_code 16 = .ok (.ireturn, 1) := by decide +kernel
theorem ef_21 (m : MethodId) (x0 : Int32) : entryFrame m #[(.int x0)] 1 = mkF m 0 #[.val (.int x0)] [] := by first | (simp [entryFrame, mkF, argsToLocals, Value.category]; done) | rfl
def Q21 (Z : State)  (h0 : Heap) (n0 : Nat) (v : Option Value) (h : Heap) (L : List Loc) : Prop := v = some (.int (1 : Int32)) ∧ Fr n0 L ∧ h = h0
set_option maxRecDepth 65536 in
set_option maxHeartbeats 40000000 in
theorem rm21 (l : Launch) (Z : State) (a0 : Array Value) (hw : ∀ d ∈ tables_1, d.before a0 Z = true) (ws : List Jvm.Cond)  (h0 : Heap) (n0 : Nat) (Z0 : n0 ≤ h0.size) :
    MetFree l (⟨"java/lang/StringLatin1", "canEncode", "(I)Z"⟩ : MethodName) (head1 (Jvm.Cond.code (⟨"java/lang/StringLatin1", "canEncode", "(I)Z"⟩ : MethodName) jdk_43_method_4_code 1 (some .boolean) :: ws) ({ frames := 0, cells := 0, slots := 0, locals := 0 } : Room)) (fun a U => a = #[(.int (42 : Int32))] ∧ Z.Warmed39 U.vm ∧ U.heap = h0) (fun _ _ _ _ _ => True) (fun _ U o U' => ∃ v L, o = .returned v ∧ Q21 Z  h0 n0 v U'.heap L ∧ FrameEnd U o U' L ({ frames := 0, cells := 0, slots := 0, locals := 0 } : Room).cells ({ frames := 0, cells := 0, slots := 0, locals := 0 } : Room).slots) := by
  refine MetFree.of_bodySF (plainFor_of_name pn1) hisR ?_
  intro p e s m args below meth c s₁ Bd hml0 hP hK
  obtain ⟨rfl, hZ, hh⟩ := hP
  have hx := Bd.exec
  have hby := Bd.bytes
  have hml : c.maxLocals = 1 := hml0
  have hown : s.vm.findClass "java/lang/StringLatin1" = some m.cls := findClass_of_methodNamed Bd.named
  have hnm := (name_of_methodNamed Bd.named Bd.method).1
  have X0 : Stand p l e ({ frames := 0, cells := 0, slots := 0, locals := 0 } : Room) s m #[(.int (42 : Int32))] below meth c s₁ [] 0 0 := Stand.of_body Bd
  have e0 : s₁.heap = h0 := by rw [← hh, Bd.state]; rfl
  have N0 := Fr.nil n0
  have pre0 : ∀ t, Steps p.tables e below (s₁.setTop (mkF m 0 #[iv (42 : Int32)] [])) t → Steps p.tables e below (s₁.setTop (entryFrame m #[(.int (42 : Int32))] 1)) t := fun t k => castTop (ef_21 m (42 : Int32)) k
  have pre1 : ∀ t, Steps p.tables e below (s₁.setTop (mkF m 16 #[iv (42 : Int32)] [(.int (1 : Int32))])) t → Steps p.tables e below (s₁.setTop (entryFrame m #[(.int (42 : Int32))] 1)) t := by
    intro t kt
    refine pre0 _ ?_
    show Steps p.tables e below (s₁.setTop (mkF m 0 #[iv (42 : Int32)] [])) _
    refine XS.iloadN X0.here hx rfl (hb hby d21_0) rfl ?_
    refine XS.ifNo X0.here hx rfl (hb hby d21_1) rfl ((if0 _ _).trans (flt (by decide)).1) ?_
    refine XS.iloadN X0.here hx rfl (hb hby d21_4) rfl ?_
    refine XS.sipush X0.here hx rfl (hb hby d21_5) ?_
    refine XS.icmpNo X0.here hx rfl (hb hby d21_8) rfl (flt (by decide)).2.2.1 ?_
    refine XS.iconst X0.here hx rfl (hb hby d21_11) ?_
    refine XS.goto X0.here hx rfl (pc0 := 12) (pc' := 16) rfl (hb hby d21_12) (by decide) (by decide) ?_
    exact kt
  obtain ⟨fs, hr, hrun, hended, hW, hsame⟩ := X0.leave (v := some (.int (1 : Int32))) (fun h => by rw [Bd.returns] at h; cases h)
  refine ⟨_, _, pre1 _ ?_, hrun, hended, _, _, rfl, ?_, ⟨_, rfl⟩, hW, hsame.mono (by decide) (by decide)⟩
  · show Steps p.tables e below (s₁.setTop (mkF m 16 #[iv (42 : Int32)] [(.int (1 : Int32))])) _
    exact retN X0 hx (t := .boolean) Bd.returns (by simp) (hb hby d21_16) hr
  · show Q21 Z  h0 n0 _ s₁.heap _
    rw [e0]
    exact ⟨rfl, N0, rfl⟩
theorem pn16 : plainFor (⟨"java/lang/Math", "max", "(II)I"⟩ : MethodName) = true := by decide +kernel
theorem d22_0 : decode jdk_29_method_65_code 0 = .ok (.iload_n 0, 1) := by decide +kernel
theorem d22_1 : decode jdk_29_method_65_code 1 = .ok (.iload_n 1, 1) := by decide +kernel
theorem d22_2 : decode jdk_29_method_65_code 2 = .ok (.if_icmp .lt 7, 3) := by decide +kernel
theorem d22_5 : decode jdk_29_method_65_code 5 = .ok (.iload_n 0, 1) := by decide +kernel
theorem d22_6 : decode jdk_29_method_65_code 6 = .ok (.goto 4, 3) := by decide +kernel
theorem d22_10 : decode jdk_29_method_65_code 10 = .ok (.ireturn, 1) := by decide +kernel
theorem ef_22 (m : MethodId) (x0 : Int32) (x1 : Int32) : entryFrame m #[(.int x0), (.int x1)] 2 = mkF m 0 #[.val (.int x0), .val (.int x1)] [] := by first | (simp [entryFrame, mkF, argsToLocals, Value.category]; done) | rfl
def Q22 (Z : State)  (h0 : Heap) (n0 : Nat) (v : Option Value) (h : Heap) (L : List Loc) : Prop := v = some (.int (0 : Int32)) ∧ Fr n0 L ∧ h = h0
set_option maxRecDepth 65536 in
set_option maxHeartbeats 40000000 in
theorem rm22 (l : Launch) (Z : State) (a0 : Array Value) (hw : ∀ d ∈ tables_1, d.before a0 Z = true) (ws : List Jvm.Cond)  (h0 : Heap) (n0 : Nat) (Z0 : n0 ≤ h0.size) :
    MetFree l (⟨"java/lang/Math", "max", "(II)I"⟩ : MethodName) (head1 (Jvm.Cond.code (⟨"java/lang/Math", "max", "(II)I"⟩ : MethodName) jdk_29_method_65_code 2 (some .int) :: ws) ({ frames := 0, cells := 0, slots := 0, locals := 0 } : Room)) (fun a U => a = #[(.int (0 : Int32)), (.int (0 : Int32))] ∧ Z.Warmed39 U.vm ∧ U.heap = h0) (fun _ _ _ _ _ => True) (fun _ U o U' => ∃ v L, o = .returned v ∧ Q22 Z  h0 n0 v U'.heap L ∧ FrameEnd U o U' L ({ frames := 0, cells := 0, slots := 0, locals := 0 } : Room).cells ({ frames := 0, cells := 0, slots := 0, locals := 0 } : Room).slots) := by
  refine MetFree.of_bodySF (Jvm.Free.JP.mathPlain rfl (by decide +kernel)) hisR ?_
  intro p e s m args below meth c s₁ Bd hml0 hP hK
  obtain ⟨rfl, hZ, hh⟩ := hP
  have hx := Bd.exec
  have hby := Bd.bytes
  have hml : c.maxLocals = 2 := hml0
  have hown : s.vm.findClass "java/lang/Math" = some m.cls := findClass_of_methodNamed Bd.named
  have hnm := (name_of_methodNamed Bd.named Bd.method).1
  have X0 : Stand p l e ({ frames := 0, cells := 0, slots := 0, locals := 0 } : Room) s m #[(.int (0 : Int32)), (.int (0 : Int32))] below meth c s₁ [] 0 0 := Stand.of_body Bd
  have e0 : s₁.heap = h0 := by rw [← hh, Bd.state]; rfl
  have N0 := Fr.nil n0
  have pre0 : ∀ t, Steps p.tables e below (s₁.setTop (mkF m 0 #[iv (0 : Int32), iv (0 : Int32)] [])) t → Steps p.tables e below (s₁.setTop (entryFrame m #[(.int (0 : Int32)), (.int (0 : Int32))] 2)) t := fun t k => castTop (ef_22 m (0 : Int32) (0 : Int32)) k
  have pre1 : ∀ t, Steps p.tables e below (s₁.setTop (mkF m 10 #[iv (0 : Int32), iv (0 : Int32)] [(.int (0 : Int32))])) t → Steps p.tables e below (s₁.setTop (entryFrame m #[(.int (0 : Int32)), (.int (0 : Int32))] 2)) t := by
    intro t kt
    refine pre0 _ ?_
    show Steps p.tables e below (s₁.setTop (mkF m 0 #[iv (0 : Int32), iv (0 : Int32)] [])) _
    refine XS.iloadN X0.here hx rfl (hb hby d22_0) rfl ?_
    refine XS.iloadN X0.here hx rfl (hb hby d22_1) rfl ?_
    refine XS.icmpNo X0.here hx rfl (hb hby d22_2) rfl (flt (by decide)).1 ?_
    refine XS.iloadN X0.here hx rfl (hb hby d22_5) rfl ?_
    refine XS.goto X0.here hx rfl (pc0 := 6) (pc' := 10) rfl (hb hby d22_6) (by decide) (by decide) ?_
    exact kt
  obtain ⟨fs, hr, hrun, hended, hW, hsame⟩ := X0.leave (v := some (.int (0 : Int32))) (fun h => by rw [Bd.returns] at h; cases h)
  refine ⟨_, _, pre1 _ ?_, hrun, hended, _, _, rfl, ?_, ⟨_, rfl⟩, hW, hsame.mono (by decide) (by decide)⟩
  · show Steps p.tables e below (s₁.setTop (mkF m 10 #[iv (0 : Int32), iv (0 : Int32)] [(.int (0 : Int32))])) _
    exact retI X0 hx Bd.returns (hb hby d22_10) hr
  · show Q22 Z  h0 n0 _ s₁.heap _
    rw [e0]
    exact ⟨rfl, N0, rfl⟩
theorem pn17 : plainFor (⟨"java/lang/Math", "min", "(II)I"⟩ : MethodName) = true := by decide +kernel
theorem d23_0 : decode jdk_29_method_69_code 0 = .ok (.iload_n 0, 1) := by decide +kernel
theorem d23_1 : decode jdk_29_method_69_code 1 = .ok (.iload_n 1, 1) := by decide +kernel
theorem d23_2 : decode jdk_29_method_69_code 2 = .ok (.if_icmp .gt 7, 3) := by decide +kernel
theorem d23_5 : decode jdk_29_method_69_code 5 = .ok (.iload_n 0, 1) := by decide +kernel
theorem d23_6 : decode jdk_29_method_69_code 6 = .ok (.goto 4, 3) := by decide +kernel
theorem d23_10 : decode jdk_29_method_69_code 10 = .ok (.ireturn, 1) := by decide +kernel
theorem ef_23v0 (m : MethodId) (x0 : Int32) (x1 : Int32) : entryFrame m #[(.int x0), (.int x1)] 2 = mkF m 0 #[.val (.int x0), .val (.int x1)] [] := by first | (simp [entryFrame, mkF, argsToLocals, Value.category]; done) | rfl
def Q23v0 (Z : State)  (h0 : Heap) (n0 : Nat) (v : Option Value) (h : Heap) (L : List Loc) : Prop := v = some (.int (0 : Int32)) ∧ Fr n0 L ∧ h = h0
set_option maxRecDepth 65536 in
set_option maxHeartbeats 40000000 in
theorem rm23v0 (l : Launch) (Z : State) (a0 : Array Value) (hw : ∀ d ∈ tables_1, d.before a0 Z = true) (ws : List Jvm.Cond)  (h0 : Heap) (n0 : Nat) (Z0 : n0 ≤ h0.size) :
    MetFree l (⟨"java/lang/Math", "min", "(II)I"⟩ : MethodName) (head1 (Jvm.Cond.code (⟨"java/lang/Math", "min", "(II)I"⟩ : MethodName) jdk_29_method_69_code 2 (some .int) :: ws) ({ frames := 0, cells := 0, slots := 0, locals := 0 } : Room)) (fun a U => a = #[(.int (0 : Int32)), (.int (0 : Int32))] ∧ Z.Warmed39 U.vm ∧ U.heap = h0) (fun _ _ _ _ _ => True) (fun _ U o U' => ∃ v L, o = .returned v ∧ Q23v0 Z  h0 n0 v U'.heap L ∧ FrameEnd U o U' L ({ frames := 0, cells := 0, slots := 0, locals := 0 } : Room).cells ({ frames := 0, cells := 0, slots := 0, locals := 0 } : Room).slots) := by
  refine MetFree.of_bodySF (Jvm.Free.JP.mathPlain rfl (by decide +kernel)) hisR ?_
  intro p e s m args below meth c s₁ Bd hml0 hP hK
  obtain ⟨rfl, hZ, hh⟩ := hP
  have hx := Bd.exec
  have hby := Bd.bytes
  have hml : c.maxLocals = 2 := hml0
  have hown : s.vm.findClass "java/lang/Math" = some m.cls := findClass_of_methodNamed Bd.named
  have hnm := (name_of_methodNamed Bd.named Bd.method).1
  have X0 : Stand p l e ({ frames := 0, cells := 0, slots := 0, locals := 0 } : Room) s m #[(.int (0 : Int32)), (.int (0 : Int32))] below meth c s₁ [] 0 0 := Stand.of_body Bd
  have e0 : s₁.heap = h0 := by rw [← hh, Bd.state]; rfl
  have N0 := Fr.nil n0
  have pre0 : ∀ t, Steps p.tables e below (s₁.setTop (mkF m 0 #[iv (0 : Int32), iv (0 : Int32)] [])) t → Steps p.tables e below (s₁.setTop (entryFrame m #[(.int (0 : Int32)), (.int (0 : Int32))] 2)) t := fun t k => castTop (ef_23v0 m (0 : Int32) (0 : Int32)) k
  have pre1 : ∀ t, Steps p.tables e below (s₁.setTop (mkF m 10 #[iv (0 : Int32), iv (0 : Int32)] [(.int (0 : Int32))])) t → Steps p.tables e below (s₁.setTop (entryFrame m #[(.int (0 : Int32)), (.int (0 : Int32))] 2)) t := by
    intro t kt
    refine pre0 _ ?_
    show Steps p.tables e below (s₁.setTop (mkF m 0 #[iv (0 : Int32), iv (0 : Int32)] [])) _
    refine XS.iloadN X0.here hx rfl (hb hby d23_0) rfl ?_
    refine XS.iloadN X0.here hx rfl (hb hby d23_1) rfl ?_
    refine XS.icmpNo X0.here hx rfl (hb hby d23_2) rfl (flt (by decide)).2.2.1 ?_
    refine XS.iloadN X0.here hx rfl (hb hby d23_5) rfl ?_
    refine XS.goto X0.here hx rfl (pc0 := 6) (pc' := 10) rfl (hb hby d23_6) (by decide) (by decide) ?_
    exact kt
  obtain ⟨fs, hr, hrun, hended, hW, hsame⟩ := X0.leave (v := some (.int (0 : Int32))) (fun h => by rw [Bd.returns] at h; cases h)
  refine ⟨_, _, pre1 _ ?_, hrun, hended, _, _, rfl, ?_, ⟨_, rfl⟩, hW, hsame.mono (by decide) (by decide)⟩
  · show Steps p.tables e below (s₁.setTop (mkF m 10 #[iv (0 : Int32), iv (0 : Int32)] [(.int (0 : Int32))])) _
    exact retI X0 hx Bd.returns (hb hby d23_10) hr
  · show Q23v0 Z  h0 n0 _ s₁.heap _
    rw [e0]
    exact ⟨rfl, N0, rfl⟩

theorem ef_23v1 (m : MethodId) (x0 : Int32) (x1 : Int32) : entryFrame m #[(.int x0), (.int x1)] 2 = mkF m 0 #[.val (.int x0), .val (.int x1)] [] := by first | (simp [entryFrame, mkF, argsToLocals, Value.category]; done) | rfl
def Q23v1 (Z : State)  (h0 : Heap) (n0 : Nat) (v : Option Value) (h : Heap) (L : List Loc) : Prop := v = some (.int (1 : Int32)) ∧ Fr n0 L ∧ h = h0
set_option maxRecDepth 65536 in
set_option maxHeartbeats 40000000 in
theorem rm23v1 (l : Launch) (Z : State) (a0 : Array Value) (hw : ∀ d ∈ tables_1, d.before a0 Z = true) (ws : List Jvm.Cond)  (h0 : Heap) (n0 : Nat) (Z0 : n0 ≤ h0.size) :
    MetFree l (⟨"java/lang/Math", "min", "(II)I"⟩ : MethodName) (head1 (Jvm.Cond.code (⟨"java/lang/Math", "min", "(II)I"⟩ : MethodName) jdk_29_method_69_code 2 (some .int) :: ws) ({ frames := 0, cells := 0, slots := 0, locals := 0 } : Room)) (fun a U => a = #[(.int (1 : Int32)), (.int (1 : Int32))] ∧ Z.Warmed39 U.vm ∧ U.heap = h0) (fun _ _ _ _ _ => True) (fun _ U o U' => ∃ v L, o = .returned v ∧ Q23v1 Z  h0 n0 v U'.heap L ∧ FrameEnd U o U' L ({ frames := 0, cells := 0, slots := 0, locals := 0 } : Room).cells ({ frames := 0, cells := 0, slots := 0, locals := 0 } : Room).slots) := by
  refine MetFree.of_bodySF (Jvm.Free.JP.mathPlain rfl (by decide +kernel)) hisR ?_
  intro p e s m args below meth c s₁ Bd hml0 hP hK
  obtain ⟨rfl, hZ, hh⟩ := hP
  have hx := Bd.exec
  have hby := Bd.bytes
  have hml : c.maxLocals = 2 := hml0
  have hown : s.vm.findClass "java/lang/Math" = some m.cls := findClass_of_methodNamed Bd.named
  have hnm := (name_of_methodNamed Bd.named Bd.method).1
  have X0 : Stand p l e ({ frames := 0, cells := 0, slots := 0, locals := 0 } : Room) s m #[(.int (1 : Int32)), (.int (1 : Int32))] below meth c s₁ [] 0 0 := Stand.of_body Bd
  have e0 : s₁.heap = h0 := by rw [← hh, Bd.state]; rfl
  have N0 := Fr.nil n0
  have pre0 : ∀ t, Steps p.tables e below (s₁.setTop (mkF m 0 #[iv (1 : Int32), iv (1 : Int32)] [])) t → Steps p.tables e below (s₁.setTop (entryFrame m #[(.int (1 : Int32)), (.int (1 : Int32))] 2)) t := fun t k => castTop (ef_23v1 m (1 : Int32) (1 : Int32)) k
  have pre1 : ∀ t, Steps p.tables e below (s₁.setTop (mkF m 10 #[iv (1 : Int32), iv (1 : Int32)] [(.int (1 : Int32))])) t → Steps p.tables e below (s₁.setTop (entryFrame m #[(.int (1 : Int32)), (.int (1 : Int32))] 2)) t := by
    intro t kt
    refine pre0 _ ?_
    show Steps p.tables e below (s₁.setTop (mkF m 0 #[iv (1 : Int32), iv (1 : Int32)] [])) _
    refine XS.iloadN X0.here hx rfl (hb hby d23_0) rfl ?_
    refine XS.iloadN X0.here hx rfl (hb hby d23_1) rfl ?_
    refine XS.icmpNo X0.here hx rfl (hb hby d23_2) rfl (flt (by decide)).2.2.1 ?_
    refine XS.iloadN X0.here hx rfl (hb hby d23_5) rfl ?_
    refine XS.goto X0.here hx rfl (pc0 := 6) (pc' := 10) rfl (hb hby d23_6) (by decide) (by decide) ?_
    exact kt
  obtain ⟨fs, hr, hrun, hended, hW, hsame⟩ := X0.leave (v := some (.int (1 : Int32))) (fun h => by rw [Bd.returns] at h; cases h)
  refine ⟨_, _, pre1 _ ?_, hrun, hended, _, _, rfl, ?_, ⟨_, rfl⟩, hW, hsame.mono (by decide) (by decide)⟩
  · show Steps p.tables e below (s₁.setTop (mkF m 10 #[iv (1 : Int32), iv (1 : Int32)] [(.int (1 : Int32))])) _
    exact retI X0 hx Bd.returns (hb hby d23_10) hr
  · show Q23v1 Z  h0 n0 _ s₁.heap _
    rw [e0]
    exact ⟨rfl, N0, rfl⟩
def own_ix (ch : Int32) : Int32 := (if ch = (42 : Int32) then (0 : Int32) else (-1 : Int32))
theorem d24_0 : decode jdk_43_method_23_code 0 = .ok (.iload_n 1, 1) := by decide +kernel
theorem d24_1 : decode jdk_43_method_23_code 1 = .ok (.i2b, 1) := by decide +kernel
theorem d24_2 : decode jdk_43_method_23_code 2 = .ok (.istore 4, 2) := by decide +kernel
theorem d24_4 : decode jdk_43_method_23_code 4 = .ok (.iload_n 2, 1) := by decide +kernel
theorem d24_5 : decode jdk_43_method_23_code 5 = .ok (.istore 5, 2) := by decide +kernel
theorem d24_7 : decode jdk_43_method_23_code 7 = .ok (.iload 5, 2) := by decide +kernel
theorem d24_9 : decode jdk_43_method_23_code 9 = .ok (.iload_n 3, 1) := by decide +kernel
theorem d24_10 : decode jdk_43_method_23_code 10 = .ok (.if_icmp .ge 21, 3) := by decide +kernel
theorem d24_13 : decode jdk_43_method_23_code 13 = .ok (.aload_n 0, 1) := by decide +kernel
theorem d24_14 : decode jdk_43_method_23_code 14 = .ok (.iload 5, 2) := by decide +kernel
theorem d24_16 : decode jdk_43_method_23_code 16 = .ok (.baload, 1) := by decide +kernel
theorem d24_17 : decode jdk_43_method_23_code 17 = .ok (.iload 4, 2) := by decide +kernel
theorem d24_19 : decode jdk_43_method_23_code 19 = .ok (.if_icmp .ne 6, 3) := by decide +kernel
theorem d24_22 : decode jdk_43_method_23_code 22 = .ok (.iload 5, 2) := by decide +kernel
theorem d24_24 : decode jdk_43_method_23_code 24 = .ok (.ireturn, 1) := by decide +kernel
theorem d24_25 : decode jdk_43_method_23_code 25 = .ok (.iinc 5 1, 3) := by decide +kernel
theorem d24_28 : decode jdk_43_method_23_code 28 = .ok (.goto (-21), 3) := by decide +kernel
theorem d24_31 : decode jdk_43_method_23_code 31 = .ok (.iconst (-1), 1) := by decide +kernel
theorem d24_32 : decode jdk_43_method_23_code 32 = .ok (.ireturn, 1) := by decide +kernel
theorem ef_24 (m : MethodId) (x0 : Addr) (x1 : Int32) (x2 : Int32) (x3 : Int32) : entryFrame m #[(.ref x0), (.int x1), (.int x2), (.int x3)] 6 = mkF m 0 #[.val (.ref x0), .val (.int x1), .val (.int x2), .val (.int x3), .unset, .unset] [] := by first | (simp [entryFrame, mkF, argsToLocals, Value.category]; done) | rfl
def Q24 (Z : State) (r0 : Addr) (kc : ClassId) (ch : Int32) (ix : Int32) (h0 : Heap) (n0 : Nat) (v : Option Value) (h : Heap) (L : List Loc) : Prop := v = some (.int ix) ∧ Fr n0 L ∧ h = h0
set_option maxRecDepth 65536 in
set_option maxHeartbeats 40000000 in
theorem rm24 (l : Launch) (Z : State) (a0 : Array Value) (hw : ∀ d ∈ tables_1, d.before a0 Z = true) (ws : List Jvm.Cond) (r0 : Addr) (kc : ClassId) (ch : Int32) (ix : Int32) (h0 : Heap) (n0 : Nat) (Z0 : n0 ≤ h0.size) (V_r0 : Arv Z h0 r0 kc .byte (1 : Int32) [(.int ch)] (.int (0 : Int32))) (hix : own_ix ch = ix) :
    MetFree l (⟨"java/lang/StringLatin1", "indexOfChar", "([BIII)I"⟩ : MethodName) (head1 (Jvm.Cond.code (⟨"java/lang/StringLatin1", "indexOfChar", "([BIII)I"⟩ : MethodName) jdk_43_method_23_code 6 (some .int) :: ws) ({ frames := 0, cells := 0, slots := 0, locals := 0 } : Room)) (fun a U => a = #[(.ref r0), (.int (42 : Int32)), (.int (0 : Int32)), (.int (1 : Int32))] ∧ Z.Warmed39 U.vm ∧ U.heap = h0) (fun _ _ _ _ _ => True) (fun _ U o U' => ∃ v L, o = .returned v ∧ Q24 Z r0 kc ch ix h0 n0 v U'.heap L ∧ FrameEnd U o U' L ({ frames := 0, cells := 0, slots := 0, locals := 0 } : Room).cells ({ frames := 0, cells := 0, slots := 0, locals := 0 } : Room).slots) := by
  refine MetFree.of_bodySF (plainFor_of_name pn1) hisR ?_
  intro p e s m args below meth c s₁ Bd hml0 hP hK
  obtain ⟨rfl, hZ, hh⟩ := hP
  have hx := Bd.exec
  have hby := Bd.bytes
  have hml : c.maxLocals = 6 := hml0
  have hown : s.vm.findClass "java/lang/StringLatin1" = some m.cls := findClass_of_methodNamed Bd.named
  have hnm := (name_of_methodNamed Bd.named Bd.method).1
  have X0 : Stand p l e ({ frames := 0, cells := 0, slots := 0, locals := 0 } : Room) s m #[(.ref r0), (.int (42 : Int32)), (.int (0 : Int32)), (.int (1 : Int32))] below meth c s₁ [] 0 0 := Stand.of_body Bd
  have e0 : s₁.heap = h0 := by rw [← hh, Bd.state]; rfl
  have N0 := Fr.nil n0
  have pre0 : ∀ t, Steps p.tables e below (s₁.setTop (mkF m 0 #[rv r0, iv (42 : Int32), iv (0 : Int32), iv (1 : Int32), .unset, .unset] [])) t → Steps p.tables e below (s₁.setTop (entryFrame m #[(.ref r0), (.int (42 : Int32)), (.int (0 : Int32)), (.int (1 : Int32))] 6)) t := fun t k => castTop (ef_24 m r0 (42 : Int32) (0 : Int32) (1 : Int32)) k
  obtain ⟨cl1, Ar1, q1, S1, M1, H1, G1⟩ := id V_r0
  have hin1 : ¬ ((0 : Int32) < 0 ∨ cl1.slots.size ≤ ((0 : Int32)).toNatClampNeg) := inb_of S1 ⟨by decide, by decide⟩
  have hat1 : cl1.slots[((0 : Int32)).toNatClampNeg]? = some (.int ch) := H1.at hin1 rfl
  have pre2 : ∀ t, Steps p.tables e below (s₁.setTop (mkF m 19 #[rv r0, iv (42 : Int32), iv (0 : Int32), iv (1 : Int32), iv (42 : Int32), iv (0 : Int32)] [(.int (42 : Int32)), (.int ch)])) t → Steps p.tables e below (s₁.setTop (entryFrame m #[(.ref r0), (.int (42 : Int32)), (.int (0 : Int32)), (.int (1 : Int32))] 6)) t := by
    intro t kt
    refine pre0 _ ?_
    show Steps p.tables e below (s₁.setTop (mkF m 0 #[rv r0, iv (42 : Int32), iv (0 : Int32), iv (1 : Int32), .unset, .unset] [])) _
    refine XS.iloadN X0.here hx rfl (hb hby d24_0) rfl ?_
    refine XS.i2b X0.here hx rfl (hb hby d24_1) rfl ?_
    show Steps p.tables e below (s₁.setTop (mkF m 2 #[rv r0, iv (42 : Int32), iv (0 : Int32), iv (1 : Int32), .unset, .unset] [(.int ((42 : Int32).toInt8.toInt32))])) _
    rw [show ((42 : Int32).toInt8.toInt32) = (42 : Int32) from (by decide)]
    show Steps p.tables e below (s₁.setTop (mkF m 2 #[rv r0, iv (42 : Int32), iv (0 : Int32), iv (1 : Int32), .unset, .unset] [(.int (42 : Int32))])) _
    refine XS.istore X0.here hx rfl (hb hby d24_2) rfl (l' := #[rv r0, iv (42 : Int32), iv (0 : Int32), iv (1 : Int32), iv (42 : Int32), .unset]) rfl ?_
    refine XS.iloadN X0.here hx rfl (hb hby d24_4) rfl ?_
    refine XS.istore X0.here hx rfl (hb hby d24_5) rfl (l' := #[rv r0, iv (42 : Int32), iv (0 : Int32), iv (1 : Int32), iv (42 : Int32), iv (0 : Int32)]) rfl ?_
    refine XS.iload X0.here hx rfl (hb hby d24_7) rfl ?_
    refine XS.iloadN X0.here hx rfl (hb hby d24_9) rfl ?_
    refine XS.icmpNo X0.here hx rfl (hb hby d24_10) rfl (tlt (by decide)).2.1 ?_
    refine XS.aloadN X0.here hx rfl (hb hby d24_13) rfl rfl ?_
    refine XS.iload X0.here hx rfl (hb hby d24_14) rfl ?_
    refine X0.baloadBytes hx (j := (0 : Int32)) (v := (.int ch)) (by rw [e0]; exact Ar1.1) (State.isArrayOf_alike hZ.alike Ar1.2.1) Ar1.2.2 hin1 hat1 (g := (mkF m 16 #[rv r0, iv (42 : Int32), iv (0 : Int32), iv (1 : Int32), iv (42 : Int32), iv (0 : Int32)] [(.int (0 : Int32)), (.ref r0)])) rfl rfl (hb hby d24_16) _ ?_
    show Steps p.tables e below (s₁.setTop (mkF m 17 #[rv r0, iv (42 : Int32), iv (0 : Int32), iv (1 : Int32), iv (42 : Int32), iv (0 : Int32)] [(.int ch)])) _
    refine XS.iload X0.here hx rfl (hb hby d24_17) rfl ?_
    exact kt
  by_cases hc19 : ch = (42 : Int32)
  · have pre3 : ∀ t, Steps p.tables e below (s₁.setTop (mkF m 24 #[rv r0, iv (42 : Int32), iv (0 : Int32), iv (1 : Int32), iv (42 : Int32), iv (0 : Int32)] [(.int (0 : Int32))])) t → Steps p.tables e below (s₁.setTop (entryFrame m #[(.ref r0), (.int (42 : Int32)), (.int (0 : Int32)), (.int (1 : Int32))] 6)) t := by
      intro t kt
      refine pre2 _ ?_
      show Steps p.tables e below (s₁.setTop (mkF m 19 #[rv r0, iv (42 : Int32), iv (0 : Int32), iv (1 : Int32), iv (42 : Int32), iv (0 : Int32)] [(.int (42 : Int32)), (.int ch)])) _
      refine XS.icmpNo X0.here hx rfl (hb hby d24_19) rfl (teq hc19).2 ?_
      refine XS.iload X0.here hx rfl (hb hby d24_22) rfl ?_
      exact kt
    obtain ⟨fs, hr, hrun, hended, hW, hsame⟩ := X0.leave (v := some (.int (0 : Int32))) (fun h => by rw [Bd.returns] at h; cases h)
    refine ⟨_, _, pre3 _ ?_, hrun, hended, _, _, rfl, ?_, ⟨_, rfl⟩, hW, hsame.mono (by decide) (by decide)⟩
    · show Steps p.tables e below (s₁.setTop (mkF m 24 #[rv r0, iv (42 : Int32), iv (0 : Int32), iv (1 : Int32), iv (42 : Int32), iv (0 : Int32)] [(.int (0 : Int32))])) _
      exact retI X0 hx Bd.returns (hb hby d24_24) hr
    · show Q24 Z r0 kc ch ix h0 n0 _ s₁.heap _
      rw [e0]
      exact ⟨congrArg (fun z => some (Value.int z)) (((if_pos hc19).trans rfl).symm.trans hix), N0, rfl⟩
  · have pre4 : ∀ t, Steps p.tables e below (s₁.setTop (mkF m 32 #[rv r0, iv (42 : Int32), iv (0 : Int32), iv (1 : Int32), iv (42 : Int32), iv (1 : Int32)] [(.int (-1 : Int32))])) t → Steps p.tables e below (s₁.setTop (entryFrame m #[(.ref r0), (.int (42 : Int32)), (.int (0 : Int32)), (.int (1 : Int32))] 6)) t := by
      intro t kt
      refine pre2 _ ?_
      show Steps p.tables e below (s₁.setTop (mkF m 19 #[rv r0, iv (42 : Int32), iv (0 : Int32), iv (1 : Int32), iv (42 : Int32), iv (0 : Int32)] [(.int (42 : Int32)), (.int ch)])) _
      refine XS.icmpYes X0.here hx rfl (pc0 := 19) (pc' := 25) rfl (hb hby d24_19) rfl (feq hc19).2 (by decide) (by decide) ?_
      refine XS.iinc X0.here hx rfl (hb hby d24_25) rfl (l' := #[rv r0, iv (42 : Int32), iv (0 : Int32), iv (1 : Int32), iv (42 : Int32), iv ((0 : Int32) + (1 : Int32))]) rfl ?_
      show Steps p.tables e below (s₁.setTop (mkF m 28 #[rv r0, iv (42 : Int32), iv (0 : Int32), iv (1 : Int32), iv (42 : Int32), iv ((0 : Int32) + (1 : Int32))] [])) _
      rw [show ((0 : Int32) + (1 : Int32)) = (1 : Int32) from (by decide)]
      show Steps p.tables e below (s₁.setTop (mkF m 28 #[rv r0, iv (42 : Int32), iv (0 : Int32), iv (1 : Int32), iv (42 : Int32), iv (1 : Int32)] [])) _
      refine XS.goto X0.here hx rfl (pc0 := 28) (pc' := 7) rfl (hb hby d24_28) (by decide) (by decide) ?_
      refine XS.iload X0.here hx rfl (hb hby d24_7) rfl ?_
      refine XS.iloadN X0.here hx rfl (hb hby d24_9) rfl ?_
      refine XS.icmpYes X0.here hx rfl (pc0 := 10) (pc' := 31) rfl (hb hby d24_10) rfl (flt (by decide)).2.1 (by decide) (by decide) ?_
      refine XS.iconst X0.here hx rfl (hb hby d24_31) ?_
      exact kt
    obtain ⟨fs, hr, hrun, hended, hW, hsame⟩ := X0.leave (v := some (.int (-1 : Int32))) (fun h => by rw [Bd.returns] at h; cases h)
    refine ⟨_, _, pre4 _ ?_, hrun, hended, _, _, rfl, ?_, ⟨_, rfl⟩, hW, hsame.mono (by decide) (by decide)⟩
    · show Steps p.tables e below (s₁.setTop (mkF m 32 #[rv r0, iv (42 : Int32), iv (0 : Int32), iv (1 : Int32), iv (42 : Int32), iv (1 : Int32)] [(.int (-1 : Int32))])) _
      exact retI X0 hx Bd.returns (hb hby d24_32) hr
    · show Q24 Z r0 kc ch ix h0 n0 _ s₁.heap _
      rw [e0]
      exact ⟨congrArg (fun z => some (Value.int z)) (((if_neg hc19).trans rfl).symm.trans hix), N0, rfl⟩
theorem d20_0 : decode jdk_43_method_22_code 0 = .ok (.iload_n 1, 1) := by decide +kernel
theorem pd18 : parseMethodDescriptor "(I)Z" = some ⟨[.int], some .boolean⟩ := by decide +kernel
theorem d20_1 : decode jdk_43_method_22_code 1 = .ok (.invokestatic 88, 3) := by decide +kernel
theorem d20_4 : decode jdk_43_method_22_code 4 = .ok (.ifCond .ne 5, 3) := by decide +kernel
theorem d20_9 : decode jdk_43_method_22_code 9 = .ok (.iload_n 2, 1) := by decide +kernel
theorem d20_10 : decode jdk_43_method_22_code 10 = .ok (.iconst 0, 1) := by decide +kernel
theorem pd19 : parseMethodDescriptor "(II)I" = some ⟨[.int, .int], some .int⟩ := by decide +kernel
theorem d20_11 : decode jdk_43_method_22_code 11 = .ok (.invokestatic 92, 3) := by decide +kernel
theorem d20_14 : decode jdk_43_method_22_code 14 = .ok (.istore_n 2, 1) := by decide +kernel
theorem d20_15 : decode jdk_43_method_22_code 15 = .ok (.iload_n 3, 1) := by decide +kernel
theorem d20_16 : decode jdk_43_method_22_code 16 = .ok (.aload_n 0, 1) := by decide +kernel
theorem d20_17 : decode jdk_43_method_22_code 17 = .ok (.arraylength, 1) := by decide +kernel
theorem d20_18 : decode jdk_43_method_22_code 18 = .ok (.invokestatic 38, 3) := by decide +kernel
theorem d20_21 : decode jdk_43_method_22_code 21 = .ok (.istore_n 3, 1) := by decide +kernel
theorem d20_22 : decode jdk_43_method_22_code 22 = .ok (.iload_n 2, 1) := by decide +kernel
theorem d20_23 : decode jdk_43_method_22_code 23 = .ok (.iload_n 3, 1) := by decide +kernel
theorem d20_24 : decode jdk_43_method_22_code 24 = .ok (.if_icmp .lt 5, 3) := by decide +kernel
theorem d20_29 : decode jdk_43_method_22_code 29 = .ok (.aload_n 0, 1) := by decide +kernel
theorem d20_30 : decode jdk_43_method_22_code 30 = .ok (.iload_n 1, 1) := by decide +kernel
theorem d20_31 : decode jdk_43_method_22_code 31 = .ok (.iload_n 2, 1) := by decide +kernel
theorem d20_32 : decode jdk_43_method_22_code 32 = .ok (.iload_n 3, 1) := by decide +kernel
theorem pd20 : parseMethodDescriptor "([BIII)I" = some ⟨[(.array .byte), .int, .int, .int], some .int⟩ := by decide +kernel
theorem d20_33 : decode jdk_43_method_22_code 33 = .ok (.invokestatic 95, 3) := by decide +kernel
theorem d20_36 : decode jdk_43_method_22_code 36 = .ok (.ireturn, 1) := by decide +kernel
theorem ef_20 (m : MethodId) (x0 : Addr) (x1 : Int32) (x2 : Int32) (x3 : Int32) : entryFrame m #[(.ref x0), (.int x1), (.int x2), (.int x3)] 4 = mkF m 0 #[.val (.ref x0), .val (.int x1), .val (.int x2), .val (.int x3)] [] := by first | (simp [entryFrame, mkF, argsToLocals, Value.category]; done) | rfl
def Q20 (Z : State) (r0 : Addr) (kc : ClassId) (ch : Int32) (ix : Int32) (h0 : Heap) (n0 : Nat) (v : Option Value) (h : Heap) (L : List Loc) : Prop := v = some (.int ix) ∧ Fr n0 L ∧ h = h0
set_option maxRecDepth 65536 in
set_option maxHeartbeats 40000000 in
theorem rm20 (l : Launch) (Z : State) (a0 : Array Value) (hw : ∀ d ∈ tables_1, d.before a0 Z = true) (ws : List Jvm.Cond) (r0 : Addr) (kc : ClassId) (ch : Int32) (ix : Int32) (h0 : Heap) (n0 : Nat) (Z0 : n0 ≤ h0.size) (V_r0 : Arv Z h0 r0 kc .byte (1 : Int32) [(.int ch)] (.int (0 : Int32))) (hix : own_ix ch = ix) :
    MetFree l (⟨"java/lang/StringLatin1", "indexOf", "([BIII)I"⟩ : MethodName) (head1 (Jvm.Cond.code (⟨"java/lang/StringLatin1", "indexOf", "([BIII)I"⟩ : MethodName) jdk_43_method_22_code 4 (some .int) :: ws) ({ frames := 1, cells := 0, slots := 0, locals := 17 } : Room)) (fun a U => a = #[(.ref r0), (.int (42 : Int32)), (.int (0 : Int32)), (.int (1 : Int32))] ∧ Z.Warmed39 U.vm ∧ U.heap = h0) (fun _ _ _ _ _ => True) (fun _ U o U' => ∃ v L, o = .returned v ∧ Q20 Z r0 kc ch ix h0 n0 v U'.heap L ∧ FrameEnd U o U' L ({ frames := 1, cells := 0, slots := 0, locals := 17 } : Room).cells ({ frames := 1, cells := 0, slots := 0, locals := 17 } : Room).slots) := by
  refine MetFree.of_bodySF (plainFor_of_name pn1) hisR ?_
  intro p e s m args below meth c s₁ Bd hml0 hP hK
  obtain ⟨rfl, hZ, hh⟩ := hP
  have hx := Bd.exec
  have hby := Bd.bytes
  have hml : c.maxLocals = 4 := hml0
  have hown : s.vm.findClass "java/lang/StringLatin1" = some m.cls := findClass_of_methodNamed Bd.named
  have hnm := (name_of_methodNamed Bd.named Bd.method).1
  have X0 : Stand p l e ({ frames := 1, cells := 0, slots := 0, locals := 17 } : Room) s m #[(.ref r0), (.int (42 : Int32)), (.int (0 : Int32)), (.int (1 : Int32))] below meth c s₁ [] 0 0 := Stand.of_body Bd
  have e0 : s₁.heap = h0 := by rw [← hh, Bd.state]; rfl
  have N0 := Fr.nil n0
  have pre0 : ∀ t, Steps p.tables e below (s₁.setTop (mkF m 0 #[rv r0, iv (42 : Int32), iv (0 : Int32), iv (1 : Int32)] [])) t → Steps p.tables e below (s₁.setTop (entryFrame m #[(.ref r0), (.int (42 : Int32)), (.int (0 : Int32)), (.int (1 : Int32))] 4)) t := fun t k => castTop (ef_20 m r0 (42 : Int32) (0 : Int32) (1 : Int32)) k
  have pre1 : ∀ t, Steps p.tables e below (s₁.setTop (mkF m 1 #[rv r0, iv (42 : Int32), iv (0 : Int32), iv (1 : Int32)] [(.int (42 : Int32))])) t → Steps p.tables e below (s₁.setTop (entryFrame m #[(.ref r0), (.int (42 : Int32)), (.int (0 : Int32)), (.int (1 : Int32))] 4)) t := by
    intro t kt
    refine pre0 _ ?_
    show Steps p.tables e below (s₁.setTop (mkF m 0 #[rv r0, iv (42 : Int32), iv (0 : Int32), iv (1 : Int32)] [])) _
    refine XS.iloadN X0.here hx rfl (hb hby d20_0) rfl ?_
    exact kt
  obtain ⟨_, _, ⟨T2, L2, k2, n2⟩, -, X2, ⟨Lc2, hQ2, l2, y2, z2⟩, st2⟩ := Jvm.LawKit.callS X0 hx (y := (⟨"java/lang/StringLatin1", "canEncode", "(I)Z"⟩ : MethodName)) hown (mvT hZ (hw _ (List.mem_of_getElem? (i := 101) rfl))) (mvT hZ (hw _ (List.mem_of_getElem? (i := 102) rfl))) (mvT hZ (hw _ (List.mem_of_getElem? (i := 12) rfl))) (mvT hZ (hw _ (List.mem_of_getElem? (i := 103) rfl))) (by decide) (backOf (W := 0) (rm21 l Z a0 hw []  h0 n0 (Nat.le_trans Z0 (Keep.refl h0 []).1)) hZ (hw _ (List.mem_of_getElem? (i := 103) rfl)) (hw _ (List.mem_of_getElem? (i := 12) rfl)) (by decide) (by decide)) (g := (mkF m 1 #[rv r0, iv (42 : Int32), iv (0 : Int32), iv (1 : Int32)] [(.int (42 : Int32))])) rfl (by rw [hml]; rfl) (argsL := [(.int (42 : Int32))]) (rest := []) (lenOf pd18 rfl) rfl (by show 2 * 0 + _ ≤ _; exact Nat.le_of_eq rfl) (hb hby d20_1) (fun _ _ => ⟨rfl, e0, (by decide : 0 + 0 ≤ _), (by decide : 0 + 0 ≤ _)⟩)
  dsimp only [Pt.U, Pt.locs, Pt.cells, Pt.slots] at X2 l2 y2 z2 st2 hQ2
  subst l2 y2 z2
  obtain ⟨rfl, N2q, hh2⟩ := hQ2
  have N2 := Fr.app N0 N2q
  have pre3 : ∀ t, Steps p.tables e below (T2.setTop (mkF m 11 #[rv r0, iv (42 : Int32), iv (0 : Int32), iv (1 : Int32)] [(.int (0 : Int32)), (.int (0 : Int32))])) t → Steps p.tables e below (s₁.setTop (entryFrame m #[(.ref r0), (.int (42 : Int32)), (.int (0 : Int32)), (.int (1 : Int32))] 4)) t := by
    intro t kt
    refine pre1 _ ?_
    show Steps p.tables e below (s₁.setTop (mkF m 1 #[rv r0, iv (42 : Int32), iv (0 : Int32), iv (1 : Int32)] [(.int (42 : Int32))])) _
    refine st2 _ ?_
    show Steps p.tables e below (T2.setTop (mkF m 4 #[rv r0, iv (42 : Int32), iv (0 : Int32), iv (1 : Int32)] [(.int (1 : Int32))])) _
    refine XS.ifYes X2.here hx rfl (pc0 := 4) (pc' := 9) rfl (hb hby d20_4) rfl ((if0 _ _).trans (feq (by decide)).2) (by decide) (by decide) ?_
    refine XS.iloadN X2.here hx rfl (hb hby d20_9) rfl ?_
    refine XS.iconst X2.here hx rfl (hb hby d20_10) ?_
    exact kt
  obtain ⟨_, _, ⟨T4, L4, k4, n4⟩, -, X4, ⟨Lc4, hQ4, l4, y4, z4⟩, st4⟩ := Jvm.LawKit.callS X2 hx (y := (⟨"java/lang/Math", "max", "(II)I"⟩ : MethodName)) hown (mvT hZ (hw _ (List.mem_of_getElem? (i := 104) rfl))) (mvT hZ (hw _ (List.mem_of_getElem? (i := 105) rfl))) (mvT hZ (hw _ (List.mem_of_getElem? (i := 106) rfl))) (mvT hZ (hw _ (List.mem_of_getElem? (i := 107) rfl))) (by decide) (backOf (W := 0) (rm22 l Z a0 hw []  h0 n0 (Nat.le_trans Z0 (Keep.refl h0 []).1)) hZ (hw _ (List.mem_of_getElem? (i := 107) rfl)) (hw _ (List.mem_of_getElem? (i := 106) rfl)) (by decide) (by decide)) (g := (mkF m 11 #[rv r0, iv (42 : Int32), iv (0 : Int32), iv (1 : Int32)] [(.int (0 : Int32)), (.int (0 : Int32))])) rfl (by rw [hml]; rfl) (argsL := [(.int (0 : Int32)), (.int (0 : Int32))]) (rest := []) (lenOf pd19 rfl) rfl (by show 2 * 0 + _ ≤ _; exact Nat.le_of_eq rfl) (hb hby d20_11) (fun _ _ => ⟨rfl, hh2, (by decide : 0 + 0 ≤ _), (by decide : 0 + 0 ≤ _)⟩)
  dsimp only [Pt.U, Pt.locs, Pt.cells, Pt.slots] at X4 l4 y4 z4 st4 hQ4
  subst l4 y4 z4
  obtain ⟨rfl, N4q, hh4⟩ := hQ4
  have N4 := Fr.app N2 N4q
  obtain ⟨cl5, Ar5, -, S5, M5, -, -⟩ := id V_r0
  have pre6 : ∀ t, Steps p.tables e below (T4.setTop (mkF m 18 #[rv r0, iv (42 : Int32), iv (0 : Int32), iv (1 : Int32)] [(.int (1 : Int32)), (.int (1 : Int32))])) t → Steps p.tables e below (s₁.setTop (entryFrame m #[(.ref r0), (.int (42 : Int32)), (.int (0 : Int32)), (.int (1 : Int32))] 4)) t := by
    intro t kt
    refine pre3 _ ?_
    show Steps p.tables e below (T2.setTop (mkF m 11 #[rv r0, iv (42 : Int32), iv (0 : Int32), iv (1 : Int32)] [(.int (0 : Int32)), (.int (0 : Int32))])) _
    refine st4 _ ?_
    show Steps p.tables e below (T4.setTop (mkF m 14 #[rv r0, iv (42 : Int32), iv (0 : Int32), iv (1 : Int32)] [(.int (0 : Int32))])) _
    refine XS.istoreN X4.here hx rfl (hb hby d20_14) rfl (l' := #[rv r0, iv (42 : Int32), iv (0 : Int32), iv (1 : Int32)]) rfl ?_
    refine XS.iloadN X4.here hx rfl (hb hby d20_15) rfl ?_
    refine XS.aloadN X4.here hx rfl (hb hby d20_16) rfl rfl ?_
    refine X4.arraylength hx (by rw [hh4]; exact Ar5.1) (State.isArrayOf_alike hZ.alike Ar5.2.1) (g := (mkF m 17 #[rv r0, iv (42 : Int32), iv (0 : Int32), iv (1 : Int32)] [(.ref r0), (.int (1 : Int32))])) rfl rfl (hb hby d20_17) _ ?_
    rw [len_of S5 M5]
    exact kt
  obtain ⟨_, _, ⟨T7, L7, k7, n7⟩, -, X7, ⟨Lc7, hQ7, l7, y7, z7⟩, st7⟩ := Jvm.LawKit.callS X4 hx (y := (⟨"java/lang/Math", "min", "(II)I"⟩ : MethodName)) hown (mvT hZ (hw _ (List.mem_of_getElem? (i := 108) rfl))) (mvT hZ (hw _ (List.mem_of_getElem? (i := 109) rfl))) (mvT hZ (hw _ (List.mem_of_getElem? (i := 106) rfl))) (mvT hZ (hw _ (List.mem_of_getElem? (i := 110) rfl))) (by decide) (backOf (W := 0) (rm23v1 l Z a0 hw []  h0 n0 (Nat.le_trans Z0 (Keep.refl h0 []).1)) hZ (hw _ (List.mem_of_getElem? (i := 110) rfl)) (hw _ (List.mem_of_getElem? (i := 106) rfl)) (by decide) (by decide)) (g := (mkF m 18 #[rv r0, iv (42 : Int32), iv (0 : Int32), iv (1 : Int32)] [(.int (1 : Int32)), (.int (1 : Int32))])) rfl (by rw [hml]; rfl) (argsL := [(.int (1 : Int32)), (.int (1 : Int32))]) (rest := []) (lenOf pd19 rfl) rfl (by show 2 * 0 + _ ≤ _; exact Nat.le_of_eq rfl) (hb hby d20_18) (fun _ _ => ⟨rfl, hh4, (by decide : 0 + 0 ≤ _), (by decide : 0 + 0 ≤ _)⟩)
  dsimp only [Pt.U, Pt.locs, Pt.cells, Pt.slots] at X7 l7 y7 z7 st7 hQ7
  subst l7 y7 z7
  obtain ⟨rfl, N7q, hh7⟩ := hQ7
  have N7 := Fr.app N4 N7q
  have pre8 : ∀ t, Steps p.tables e below (T7.setTop (mkF m 33 #[rv r0, iv (42 : Int32), iv (0 : Int32), iv (1 : Int32)] [(.int (1 : Int32)), (.int (0 : Int32)), (.int (42 : Int32)), (.ref r0)])) t → Steps p.tables e below (s₁.setTop (entryFrame m #[(.ref r0), (.int (42 : Int32)), (.int (0 : Int32)), (.int (1 : Int32))] 4)) t := by
    intro t kt
    refine pre6 _ ?_
    show Steps p.tables e below (T4.setTop (mkF m 18 #[rv r0, iv (42 : Int32), iv (0 : Int32), iv (1 : Int32)] [(.int (1 : Int32)), (.int (1 : Int32))])) _
    refine st7 _ ?_
    show Steps p.tables e below (T7.setTop (mkF m 21 #[rv r0, iv (42 : Int32), iv (0 : Int32), iv (1 : Int32)] [(.int (1 : Int32))])) _
    refine XS.istoreN X7.here hx rfl (hb hby d20_21) rfl (l' := #[rv r0, iv (42 : Int32), iv (0 : Int32), iv (1 : Int32)]) rfl ?_
    refine XS.iloadN X7.here hx rfl (hb hby d20_22) rfl ?_
    refine XS.iloadN X7.here hx rfl (hb hby d20_23) rfl ?_
    refine XS.icmpYes X7.here hx rfl (pc0 := 24) (pc' := 29) rfl (hb hby d20_24) rfl (tlt (by decide)).1 (by decide) (by decide) ?_
    refine XS.aloadN X7.here hx rfl (hb hby d20_29) rfl rfl ?_
    refine XS.iloadN X7.here hx rfl (hb hby d20_30) rfl ?_
    refine XS.iloadN X7.here hx rfl (hb hby d20_31) rfl ?_
    refine XS.iloadN X7.here hx rfl (hb hby d20_32) rfl ?_
    exact kt
  obtain ⟨_, _, ⟨T9, L9, k9, n9⟩, -, X9, ⟨Lc9, hQ9, l9, y9, z9⟩, st9⟩ := Jvm.LawKit.callS X7 hx (y := (⟨"java/lang/StringLatin1", "indexOfChar", "([BIII)I"⟩ : MethodName)) hown (mvT hZ (hw _ (List.mem_of_getElem? (i := 111) rfl))) (mvT hZ (hw _ (List.mem_of_getElem? (i := 112) rfl))) (mvT hZ (hw _ (List.mem_of_getElem? (i := 12) rfl))) (mvT hZ (hw _ (List.mem_of_getElem? (i := 113) rfl))) (by decide) (backOf (W := 0) (rm24 l Z a0 hw [] r0 kc ch ix h0 n0 (Nat.le_trans Z0 (Keep.refl h0 []).1) V_r0 hix) hZ (hw _ (List.mem_of_getElem? (i := 113) rfl)) (hw _ (List.mem_of_getElem? (i := 12) rfl)) (by decide) (by decide)) (g := (mkF m 33 #[rv r0, iv (42 : Int32), iv (0 : Int32), iv (1 : Int32)] [(.int (1 : Int32)), (.int (0 : Int32)), (.int (42 : Int32)), (.ref r0)])) rfl (by rw [hml]; rfl) (argsL := [(.ref r0), (.int (42 : Int32)), (.int (0 : Int32)), (.int (1 : Int32))]) (rest := []) (lenOf pd20 rfl) rfl (by show 2 * 0 + _ ≤ _; exact Nat.le_of_eq rfl) (hb hby d20_33) (fun _ _ => ⟨rfl, hh7, (by decide : 0 + 0 ≤ _), (by decide : 0 + 0 ≤ _)⟩)
  dsimp only [Pt.U, Pt.locs, Pt.cells, Pt.slots] at X9 l9 y9 z9 st9 hQ9
  subst l9 y9 z9
  obtain ⟨rfl, N9q, hh9⟩ := hQ9
  have N9 := Fr.app N7 N9q
  have pre10 : ∀ t, Steps p.tables e below (T9.setTop (mkF m 36 #[rv r0, iv (42 : Int32), iv (0 : Int32), iv (1 : Int32)] [(.int ix)])) t → Steps p.tables e below (s₁.setTop (entryFrame m #[(.ref r0), (.int (42 : Int32)), (.int (0 : Int32)), (.int (1 : Int32))] 4)) t := by
    intro t kt
    refine pre8 _ ?_
    show Steps p.tables e below (T7.setTop (mkF m 33 #[rv r0, iv (42 : Int32), iv (0 : Int32), iv (1 : Int32)] [(.int (1 : Int32)), (.int (0 : Int32)), (.int (42 : Int32)), (.ref r0)])) _
    refine st9 _ ?_
    exact kt
  obtain ⟨fs, hr, hrun, hended, hW, hsame⟩ := X9.leave (v := some (.int ix)) (fun h => by rw [Bd.returns] at h; cases h)
  refine ⟨_, _, pre10 _ ?_, hrun, hended, _, _, rfl, ?_, ⟨_, rfl⟩, hW, hsame.mono (by decide) (by decide)⟩
  · show Steps p.tables e below (T9.setTop (mkF m 36 #[rv r0, iv (42 : Int32), iv (0 : Int32), iv (1 : Int32)] [(.int ix)])) _
    exact retI X9 hx Bd.returns (hb hby d20_36) hr
  · show Q20 Z r0 kc ch ix h0 n0 _ T9.heap _
    rw [hh9]
    exact ⟨rfl, N9, rfl⟩
theorem d18_0 : decode jdk_42_method_80_code 0 = .ok (.aload_n 0, 1) := by decide +kernel
theorem d18_1 : decode jdk_42_method_80_code 1 = .ok (.invokevirtual 492, 3) := by decide +kernel
theorem d18_4 : decode jdk_42_method_80_code 4 = .ok (.ifCond .eq 19, 3) := by decide +kernel
theorem d18_7 : decode jdk_42_method_80_code 7 = .ok (.aload_n 0, 1) := by decide +kernel
theorem d18_8 : decode jdk_42_method_80_code 8 = .ok (.getfield 9, 3) := by decide +kernel
theorem d18_11 : decode jdk_42_method_80_code 11 = .ok (.iload_n 1, 1) := by decide +kernel
theorem d18_12 : decode jdk_42_method_80_code 12 = .ok (.iload_n 2, 1) := by decide +kernel
theorem d18_13 : decode jdk_42_method_80_code 13 = .ok (.aload_n 0, 1) := by decide +kernel
theorem pd21 : parseMethodDescriptor "()I" = some ⟨[], some .int⟩ := by decide +kernel
theorem d18_14 : decode jdk_42_method_80_code 14 = .ok (.invokevirtual 505, 3) := by decide +kernel
theorem d18_17 : decode jdk_42_method_80_code 17 = .ok (.invokestatic 637, 3) := by decide +kernel
theorem d18_20 : decode jdk_42_method_80_code 20 = .ok (.goto 16, 3) := by decide +kernel
theorem d18_36 : decode jdk_42_method_80_code 36 = .ok (.ireturn, 1) := by decide +kernel
theorem ef_18 (m : MethodId) (x0 : Addr) (x1 : Int32) (x2 : Int32) : entryFrame m #[(.ref x0), (.int x1), (.int x2)] 3 = mkF m 0 #[.val (.ref x0), .val (.int x1), .val (.int x2)] [] := by first | (simp [entryFrame, mkF, argsToLocals, Value.category]; done) | rfl
def Q18 (Z : State) (r0 : Addr) (va : Addr) (kc : ClassId) (ch : Int32) (ix : Int32) (cs : Int32) (h0 : Heap) (n0 : Nat) (v : Option Value) (h : Heap) (L : List Loc) : Prop := v = some (.int ix) ∧ Fr n0 L ∧ h = h0
set_option maxRecDepth 65536 in
set_option maxHeartbeats 40000000 in
theorem rm18 (l : Launch) (Z : State) (a0 : Array Value) (hw : ∀ d ∈ tables_1, d.before a0 Z = true) (ws : List Jvm.Cond) (r0 : Addr) (va : Addr) (kc : ClassId) (ch : Int32) (ix : Int32) (cs : Int32) (h0 : Heap) (n0 : Nat) (Z0 : n0 ≤ h0.size) (F_value_r0 : Fld Z h0 r0 "java/lang/String" "value" "[B" (.ref va)) (F_coder_r0 : Fld Z h0 r0 "java/lang/String" "coder" "B" (.int (0 : Int32))) (E_r0 : Exa Z h0 r0 "java/lang/String") (V_va : Arv Z h0 va kc .byte (1 : Int32) [(.int ch)] (.int (0 : Int32))) (O0 : Old Z n0 h0) (S_cs : Sta Z Z.heap "java/lang/String" "COMPACT_STRINGS" "Z" (.int cs)) (hcs : ¬ (cs = (0 : Int32))) (hix : own_ix ch = ix) :
    MetFree l (⟨"java/lang/String", "indexOf", "(II)I"⟩ : MethodName) (head1 (Jvm.Cond.code (⟨"java/lang/String", "indexOf", "(II)I"⟩ : MethodName) jdk_42_method_80_code 3 (some .int) :: ws) ({ frames := 2, cells := 0, slots := 0, locals := 32 } : Room)) (fun a U => a = #[(.ref r0), (.int (42 : Int32)), (.int (0 : Int32))] ∧ Z.Warmed39 U.vm ∧ U.heap = h0) (fun _ _ _ _ _ => True) (fun _ U o U' => ∃ v L, o = .returned v ∧ Q18 Z r0 va kc ch ix cs h0 n0 v U'.heap L ∧ FrameEnd U o U' L ({ frames := 2, cells := 0, slots := 0, locals := 32 } : Room).cells ({ frames := 2, cells := 0, slots := 0, locals := 32 } : Room).slots) := by
  refine MetFree.of_bodySF (plainFor_of_name pn2) hisR ?_
  intro p e s m args below meth c s₁ Bd hml0 hP hK
  obtain ⟨rfl, hZ, hh⟩ := hP
  have hx := Bd.exec
  have hby := Bd.bytes
  have hml : c.maxLocals = 3 := hml0
  have hown : s.vm.findClass "java/lang/String" = some m.cls := findClass_of_methodNamed Bd.named
  have hnm := (name_of_methodNamed Bd.named Bd.method).1
  have X0 : Stand p l e ({ frames := 2, cells := 0, slots := 0, locals := 32 } : Room) s m #[(.ref r0), (.int (42 : Int32)), (.int (0 : Int32))] below meth c s₁ [] 0 0 := Stand.of_body Bd
  have e0 : s₁.heap = h0 := by rw [← hh, Bd.state]; rfl
  have N0 := Fr.nil n0
  have pre0 : ∀ t, Steps p.tables e below (s₁.setTop (mkF m 0 #[rv r0, iv (42 : Int32), iv (0 : Int32)] [])) t → Steps p.tables e below (s₁.setTop (entryFrame m #[(.ref r0), (.int (42 : Int32)), (.int (0 : Int32))] 3)) t := fun t k => castTop (ef_18 m r0 (42 : Int32) (0 : Int32)) k
  have pre1 : ∀ t, Steps p.tables e below (s₁.setTop (mkF m 1 #[rv r0, iv (42 : Int32), iv (0 : Int32)] [(.ref r0)])) t → Steps p.tables e below (s₁.setTop (entryFrame m #[(.ref r0), (.int (42 : Int32)), (.int (0 : Int32))] 3)) t := by
    intro t kt
    refine pre0 _ ?_
    show Steps p.tables e below (s₁.setTop (mkF m 0 #[rv r0, iv (42 : Int32), iv (0 : Int32)] [])) _
    refine XS.aloadN X0.here hx rfl (hb hby d18_0) rfl rfl ?_
    exact kt
  obtain ⟨cq2, kq2, q2a, q2b, q2c⟩ := isOf hZ e0 E_r0
  obtain ⟨_, _, ⟨T2, L2, k2, n2⟩, -, X2, ⟨Lc2, hQ2, l2, y2, z2⟩, st2⟩ := X0.virtualBack hx (y := (⟨"java/lang/String", "isLatin1", "()Z"⟩ : MethodName)) (z := (⟨"java/lang/String", "isLatin1", "()Z"⟩ : MethodName)) hown (mvT hZ (hw _ (List.mem_of_getElem? (i := 64) rfl))) (mvT hZ (hw _ (List.mem_of_getElem? (i := 65) rfl))) (notFace_of_selects (args := #[]) (mvT hZ (hw _ (List.mem_of_getElem? (i := 67) rfl)))) (mvT hZ (hw _ (List.mem_of_getElem? (i := 67) rfl))) (mvT hZ (hw _ (List.mem_of_getElem? (i := 66) rfl))) (by decide) (backOf (W := 0) (rm13 l Z a0 hw [] r0 va cs h0 n0 (Nat.le_trans Z0 (Keep.refl h0 []).1) (O0.keep (Keep.refl h0 []) all0) S_cs hcs F_value_r0 F_coder_r0 E_r0) hZ (hw _ (List.mem_of_getElem? (i := 68) rfl)) (hw _ (List.mem_of_getElem? (i := 7) rfl)) (by decide) (by decide)) q2a q2c (g := (mkF m 1 #[rv r0, iv (42 : Int32), iv (0 : Int32)] [(.ref r0)])) rfl (by rw [hml]; rfl) (Steps.refl _) (argsL := []) (rest := []) (lenOf pd10 rfl) rfl (by show 2 * 0 + _ ≤ _; exact Nat.le_of_eq rfl) (hb hby d18_1) (fun _ _ => ⟨rfl, e0, (by decide : 0 + 0 ≤ _), (by decide : 0 + 0 ≤ _)⟩)
  dsimp only [Pt.U, Pt.locs, Pt.cells, Pt.slots] at X2 l2 y2 z2 st2 hQ2
  subst l2 y2 z2
  obtain ⟨rfl, N2q, hh2⟩ := hQ2
  have N2 := Fr.app N0 N2q
  have pre3 : ∀ t, Steps p.tables e below (T2.setTop (mkF m 8 #[rv r0, iv (42 : Int32), iv (0 : Int32)] [(.ref r0)])) t → Steps p.tables e below (s₁.setTop (entryFrame m #[(.ref r0), (.int (42 : Int32)), (.int (0 : Int32))] 3)) t := by
    intro t kt
    refine pre1 _ ?_
    show Steps p.tables e below (s₁.setTop (mkF m 1 #[rv r0, iv (42 : Int32), iv (0 : Int32)] [(.ref r0)])) _
    refine st2.trans ?_
    show Steps p.tables e below (T2.setTop (mkF m 4 #[rv r0, iv (42 : Int32), iv (0 : Int32)] [(.int (1 : Int32))])) _
    refine XS.ifNo X2.here hx rfl (hb hby d18_4) rfl ((if0 _ _).trans (feq (by decide)).1) ?_
    refine XS.aloadN X2.here hx rfl (hb hby d18_7) rfl rfl ?_
    exact kt
  obtain ⟨T4, X4, e4, st4⟩ := getF X2 hx hZ hown (host := "") (Or.inl (hw _ (List.mem_of_getElem? (i := 27) rfl))) Via.refl hh2 F_value_r0 (g := (mkF m 8 #[rv r0, iv (42 : Int32), iv (0 : Int32)] [(.ref r0)])) rfl rfl (hb hby d18_8)
  have pre5 : ∀ t, Steps p.tables e below (T4.setTop (mkF m 14 #[rv r0, iv (42 : Int32), iv (0 : Int32)] [(.ref r0), (.int (0 : Int32)), (.int (42 : Int32)), (.ref va)])) t → Steps p.tables e below (s₁.setTop (entryFrame m #[(.ref r0), (.int (42 : Int32)), (.int (0 : Int32))] 3)) t := by
    intro t kt
    refine pre3 _ ?_
    show Steps p.tables e below (T2.setTop (mkF m 8 #[rv r0, iv (42 : Int32), iv (0 : Int32)] [(.ref r0)])) _
    refine st4 _ ?_
    show Steps p.tables e below (T4.setTop (mkF m 11 #[rv r0, iv (42 : Int32), iv (0 : Int32)] [(.ref va)])) _
    refine XS.iloadN X4.here hx rfl (hb hby d18_11) rfl ?_
    refine XS.iloadN X4.here hx rfl (hb hby d18_12) rfl ?_
    refine XS.aloadN X4.here hx rfl (hb hby d18_13) rfl rfl ?_
    exact kt
  obtain ⟨cq6, kq6, q6a, q6b, q6c⟩ := isOf hZ e4 E_r0
  obtain ⟨_, _, ⟨T6, L6, k6, n6⟩, -, X6, ⟨Lc6, hQ6, l6, y6, z6⟩, st6⟩ := X4.virtualBack hx (y := (⟨"java/lang/String", "length", "()I"⟩ : MethodName)) (z := (⟨"java/lang/String", "length", "()I"⟩ : MethodName)) hown (mvT hZ (hw _ (List.mem_of_getElem? (i := 93) rfl))) (mvT hZ (hw _ (List.mem_of_getElem? (i := 94) rfl))) (notFace_of_selects (args := #[]) (mvT hZ (hw _ (List.mem_of_getElem? (i := 96) rfl)))) (mvT hZ (hw _ (List.mem_of_getElem? (i := 96) rfl))) (mvT hZ (hw _ (List.mem_of_getElem? (i := 95) rfl))) (by decide) (backOf (W := 3) (rm19 l Z a0 hw [] r0 va kc ch cs h0 n0 (Nat.le_trans Z0 (Keep.refl h0 []).1) F_value_r0 F_coder_r0 E_r0 V_va (O0.keep (Keep.refl h0 []) all0) S_cs hcs) hZ (hw _ (List.mem_of_getElem? (i := 97) rfl)) (hw _ (List.mem_of_getElem? (i := 7) rfl)) (by decide) (by decide)) q6a q6c (g := (mkF m 14 #[rv r0, iv (42 : Int32), iv (0 : Int32)] [(.ref r0), (.int (0 : Int32)), (.int (42 : Int32)), (.ref va)])) rfl (by rw [hml]; rfl) (Steps.refl _) (argsL := []) (rest := [(.int (0 : Int32)), (.int (42 : Int32)), (.ref va)]) (lenOf pd21 rfl) rfl (by show 2 * 0 + _ ≤ _; exact Nat.le_of_eq rfl) (hb hby d18_14) (fun _ _ => ⟨rfl, e4, (by decide : 0 + 0 ≤ _), (by decide : 0 + 0 ≤ _)⟩)
  dsimp only [Pt.U, Pt.locs, Pt.cells, Pt.slots] at X6 l6 y6 z6 st6 hQ6
  subst l6 y6 z6
  obtain ⟨rfl, N6q, hh6⟩ := hQ6
  have N6 := Fr.app N2 N6q
  have pre7 : ∀ t, Steps p.tables e below (T6.setTop (mkF m 17 #[rv r0, iv (42 : Int32), iv (0 : Int32)] [(.int (1 : Int32)), (.int (0 : Int32)), (.int (42 : Int32)), (.ref va)])) t → Steps p.tables e below (s₁.setTop (entryFrame m #[(.ref r0), (.int (42 : Int32)), (.int (0 : Int32))] 3)) t := by
    intro t kt
    refine pre5 _ ?_
    show Steps p.tables e below (T4.setTop (mkF m 14 #[rv r0, iv (42 : Int32), iv (0 : Int32)] [(.ref r0), (.int (0 : Int32)), (.int (42 : Int32)), (.ref va)])) _
    refine st6.trans ?_
    exact kt
  obtain ⟨_, _, ⟨T8, L8, k8, n8⟩, -, X8, ⟨Lc8, hQ8, l8, y8, z8⟩, st8⟩ := Jvm.LawKit.callS X6 hx (y := (⟨"java/lang/StringLatin1", "indexOf", "([BIII)I"⟩ : MethodName)) hown (mvT hZ (hw _ (List.mem_of_getElem? (i := 98) rfl))) (mvT hZ (hw _ (List.mem_of_getElem? (i := 99) rfl))) (mvT hZ (hw _ (List.mem_of_getElem? (i := 12) rfl))) (mvT hZ (hw _ (List.mem_of_getElem? (i := 100) rfl))) (by decide) (backOf (W := 0) (rm20 l Z a0 hw [] va kc ch ix h0 n0 (Nat.le_trans Z0 (Keep.refl h0 []).1) V_va hix) hZ (hw _ (List.mem_of_getElem? (i := 100) rfl)) (hw _ (List.mem_of_getElem? (i := 12) rfl)) (by decide) (by decide)) (g := (mkF m 17 #[rv r0, iv (42 : Int32), iv (0 : Int32)] [(.int (1 : Int32)), (.int (0 : Int32)), (.int (42 : Int32)), (.ref va)])) rfl (by rw [hml]; rfl) (argsL := [(.ref va), (.int (42 : Int32)), (.int (0 : Int32)), (.int (1 : Int32))]) (rest := []) (lenOf pd20 rfl) rfl (by show 2 * 0 + _ ≤ _; exact Nat.le_of_eq rfl) (hb hby d18_17) (fun _ _ => ⟨rfl, hh6, (by decide : 0 + 0 ≤ _), (by decide : 0 + 0 ≤ _)⟩)
  dsimp only [Pt.U, Pt.locs, Pt.cells, Pt.slots] at X8 l8 y8 z8 st8 hQ8
  subst l8 y8 z8
  obtain ⟨rfl, N8q, hh8⟩ := hQ8
  have N8 := Fr.app N6 N8q
  have pre9 : ∀ t, Steps p.tables e below (T8.setTop (mkF m 36 #[rv r0, iv (42 : Int32), iv (0 : Int32)] [(.int ix)])) t → Steps p.tables e below (s₁.setTop (entryFrame m #[(.ref r0), (.int (42 : Int32)), (.int (0 : Int32))] 3)) t := by
    intro t kt
    refine pre7 _ ?_
    show Steps p.tables e below (T6.setTop (mkF m 17 #[rv r0, iv (42 : Int32), iv (0 : Int32)] [(.int (1 : Int32)), (.int (0 : Int32)), (.int (42 : Int32)), (.ref va)])) _
    refine st8 _ ?_
    show Steps p.tables e below (T8.setTop (mkF m 20 #[rv r0, iv (42 : Int32), iv (0 : Int32)] [(.int ix)])) _
    refine XS.goto X8.here hx rfl (pc0 := 20) (pc' := 36) rfl (hb hby d18_20) (by decide) (by decide) ?_
    exact kt
  obtain ⟨fs, hr, hrun, hended, hW, hsame⟩ := X8.leave (v := some (.int ix)) (fun h => by rw [Bd.returns] at h; cases h)
  refine ⟨_, _, pre9 _ ?_, hrun, hended, _, _, rfl, ?_, ⟨_, rfl⟩, hW, hsame.mono (by decide) (by decide)⟩
  · show Steps p.tables e below (T8.setTop (mkF m 36 #[rv r0, iv (42 : Int32), iv (0 : Int32)] [(.int ix)])) _
    exact retI X8 hx Bd.returns (hb hby d18_36) hr
  · show Q18 Z r0 va kc ch ix cs h0 n0 _ T8.heap _
    rw [hh8]
    exact ⟨rfl, N8, rfl⟩
theorem d17_0 : decode jdk_42_method_79_code 0 = .ok (.aload_n 0, 1) := by decide +kernel
theorem d17_1 : decode jdk_42_method_79_code 1 = .ok (.iload_n 1, 1) := by decide +kernel
theorem d17_2 : decode jdk_42_method_79_code 2 = .ok (.iconst 0, 1) := by decide +kernel
theorem d17_3 : decode jdk_42_method_79_code 3 = .ok (.invokevirtual 633, 3) := by decide +kernel
theorem d17_6 : decode jdk_42_method_79_code 6 = .ok (.ireturn, 1) := by decide +kernel
theorem ef_17 (m : MethodId) (x0 : Addr) (x1 : Int32) : entryFrame m #[(.ref x0), (.int x1)] 2 = mkF m 0 #[.val (.ref x0), .val (.int x1)] [] := by first | (simp [entryFrame, mkF, argsToLocals, Value.category]; done) | rfl
def Q17 (Z : State) (r0 : Addr) (va : Addr) (kc : ClassId) (ch : Int32) (ix : Int32) (cs : Int32) (h0 : Heap) (n0 : Nat) (v : Option Value) (h : Heap) (L : List Loc) : Prop := v = some (.int ix) ∧ Fr n0 L ∧ h = h0
set_option maxRecDepth 65536 in
set_option maxHeartbeats 40000000 in
theorem rm17 (l : Launch) (Z : State) (a0 : Array Value) (hw : ∀ d ∈ tables_1, d.before a0 Z = true) (ws : List Jvm.Cond) (r0 : Addr) (va : Addr) (kc : ClassId) (ch : Int32) (ix : Int32) (cs : Int32) (h0 : Heap) (n0 : Nat) (Z0 : n0 ≤ h0.size) (F_value_r0 : Fld Z h0 r0 "java/lang/String" "value" "[B" (.ref va)) (F_coder_r0 : Fld Z h0 r0 "java/lang/String" "coder" "B" (.int (0 : Int32))) (E_r0 : Exa Z h0 r0 "java/lang/String") (V_va : Arv Z h0 va kc .byte (1 : Int32) [(.int ch)] (.int (0 : Int32))) (O0 : Old Z n0 h0) (S_cs : Sta Z Z.heap "java/lang/String" "COMPACT_STRINGS" "Z" (.int cs)) (hcs : ¬ (cs = (0 : Int32))) (hix : own_ix ch = ix) :
    MetFree l (⟨"java/lang/String", "indexOf", "(I)I"⟩ : MethodName) (head1 (Jvm.Cond.code (⟨"java/lang/String", "indexOf", "(I)I"⟩ : MethodName) jdk_42_method_79_code 2 (some .int) :: ws) ({ frames := 3, cells := 0, slots := 0, locals := 46 } : Room)) (fun a U => a = #[(.ref r0), (.int (42 : Int32))] ∧ Z.Warmed39 U.vm ∧ U.heap = h0) (fun _ _ _ _ _ => True) (fun _ U o U' => ∃ v L, o = .returned v ∧ Q17 Z r0 va kc ch ix cs h0 n0 v U'.heap L ∧ FrameEnd U o U' L ({ frames := 3, cells := 0, slots := 0, locals := 46 } : Room).cells ({ frames := 3, cells := 0, slots := 0, locals := 46 } : Room).slots) := by
  refine MetFree.of_bodySF (plainFor_of_name pn2) hisR ?_
  intro p e s m args below meth c s₁ Bd hml0 hP hK
  obtain ⟨rfl, hZ, hh⟩ := hP
  have hx := Bd.exec
  have hby := Bd.bytes
  have hml : c.maxLocals = 2 := hml0
  have hown : s.vm.findClass "java/lang/String" = some m.cls := findClass_of_methodNamed Bd.named
  have hnm := (name_of_methodNamed Bd.named Bd.method).1
  have X0 : Stand p l e ({ frames := 3, cells := 0, slots := 0, locals := 46 } : Room) s m #[(.ref r0), (.int (42 : Int32))] below meth c s₁ [] 0 0 := Stand.of_body Bd
  have e0 : s₁.heap = h0 := by rw [← hh, Bd.state]; rfl
  have N0 := Fr.nil n0
  have pre0 : ∀ t, Steps p.tables e below (s₁.setTop (mkF m 0 #[rv r0, iv (42 : Int32)] [])) t → Steps p.tables e below (s₁.setTop (entryFrame m #[(.ref r0), (.int (42 : Int32))] 2)) t := fun t k => castTop (ef_17 m r0 (42 : Int32)) k
  have pre1 : ∀ t, Steps p.tables e below (s₁.setTop (mkF m 3 #[rv r0, iv (42 : Int32)] [(.int (0 : Int32)), (.int (42 : Int32)), (.ref r0)])) t → Steps p.tables e below (s₁.setTop (entryFrame m #[(.ref r0), (.int (42 : Int32))] 2)) t := by
    intro t kt
    refine pre0 _ ?_
    show Steps p.tables e below (s₁.setTop (mkF m 0 #[rv r0, iv (42 : Int32)] [])) _
    refine XS.aloadN X0.here hx rfl (hb hby d17_0) rfl rfl ?_
    refine XS.iloadN X0.here hx rfl (hb hby d17_1) rfl ?_
    refine XS.iconst X0.here hx rfl (hb hby d17_2) ?_
    exact kt
  obtain ⟨cq2, kq2, q2a, q2b, q2c⟩ := isOf hZ e0 E_r0
  obtain ⟨_, _, ⟨T2, L2, k2, n2⟩, -, X2, ⟨Lc2, hQ2, l2, y2, z2⟩, st2⟩ := X0.virtualBack hx (y := (⟨"java/lang/String", "indexOf", "(II)I"⟩ : MethodName)) (z := (⟨"java/lang/String", "indexOf", "(II)I"⟩ : MethodName)) hown (mvT hZ (hw _ (List.mem_of_getElem? (i := 88) rfl))) (mvT hZ (hw _ (List.mem_of_getElem? (i := 89) rfl))) (notFace_of_selects (args := #[]) (mvT hZ (hw _ (List.mem_of_getElem? (i := 91) rfl)))) (mvT hZ (hw _ (List.mem_of_getElem? (i := 91) rfl))) (mvT hZ (hw _ (List.mem_of_getElem? (i := 90) rfl))) (by decide) (backOf (W := 0) (rm18 l Z a0 hw [] r0 va kc ch ix cs h0 n0 (Nat.le_trans Z0 (Keep.refl h0 []).1) F_value_r0 F_coder_r0 E_r0 V_va (O0.keep (Keep.refl h0 []) all0) S_cs hcs hix) hZ (hw _ (List.mem_of_getElem? (i := 92) rfl)) (hw _ (List.mem_of_getElem? (i := 7) rfl)) (by decide) (by decide)) q2a q2c (g := (mkF m 3 #[rv r0, iv (42 : Int32)] [(.int (0 : Int32)), (.int (42 : Int32)), (.ref r0)])) rfl (by rw [hml]; rfl) (Steps.refl _) (argsL := [(.int (42 : Int32)), (.int (0 : Int32))]) (rest := []) (lenOf pd19 rfl) rfl (by show 2 * 0 + _ ≤ _; exact Nat.le_of_eq rfl) (hb hby d17_3) (fun _ _ => ⟨rfl, e0, (by decide : 0 + 0 ≤ _), (by decide : 0 + 0 ≤ _)⟩)
  dsimp only [Pt.U, Pt.locs, Pt.cells, Pt.slots] at X2 l2 y2 z2 st2 hQ2
  subst l2 y2 z2
  obtain ⟨rfl, N2q, hh2⟩ := hQ2
  have N2 := Fr.app N0 N2q
  have pre3 : ∀ t, Steps p.tables e below (T2.setTop (mkF m 6 #[rv r0, iv (42 : Int32)] [(.int ix)])) t → Steps p.tables e below (s₁.setTop (entryFrame m #[(.ref r0), (.int (42 : Int32))] 2)) t := by
    intro t kt
    refine pre1 _ ?_
    show Steps p.tables e below (s₁.setTop (mkF m 3 #[rv r0, iv (42 : Int32)] [(.int (0 : Int32)), (.int (42 : Int32)), (.ref r0)])) _
    refine st2.trans ?_
    exact kt
  obtain ⟨fs, hr, hrun, hended, hW, hsame⟩ := X2.leave (v := some (.int ix)) (fun h => by rw [Bd.returns] at h; cases h)
  refine ⟨_, _, pre3 _ ?_, hrun, hended, _, _, rfl, ?_, ⟨_, rfl⟩, hW, hsame.mono (by decide) (by decide)⟩
  · show Steps p.tables e below (T2.setTop (mkF m 6 #[rv r0, iv (42 : Int32)] [(.int ix)])) _
    exact retI X2 hx Bd.returns (hb hby d17_6) hr
  · show Q17 Z r0 va kc ch ix cs h0 n0 _ T2.heap _
    rw [hh2]
    exact ⟨rfl, N2, rfl⟩
theorem d27_0 : decode jdk_43_method_27_code 0 = .ok (.iload_n 1, 1) := by decide +kernel
theorem d27_1 : decode jdk_43_method_27_code 1 = .ok (.invokestatic 88, 3) := by decide +kernel
theorem d27_4 : decode jdk_43_method_27_code 4 = .ok (.ifCond .ne 5, 3) := by decide +kernel
theorem d27_9 : decode jdk_43_method_27_code 9 = .ok (.iload_n 2, 1) := by decide +kernel
theorem d27_10 : decode jdk_43_method_27_code 10 = .ok (.aload_n 0, 1) := by decide +kernel
theorem d27_11 : decode jdk_43_method_27_code 11 = .ok (.arraylength, 1) := by decide +kernel
theorem d27_12 : decode jdk_43_method_27_code 12 = .ok (.iconst 1, 1) := by decide +kernel
theorem d27_13 : decode jdk_43_method_27_code 13 = .ok (.isub, 1) := by decide +kernel
theorem d27_14 : decode jdk_43_method_27_code 14 = .ok (.invokestatic 38, 3) := by decide +kernel
theorem d27_17 : decode jdk_43_method_27_code 17 = .ok (.istore_n 3, 1) := by decide +kernel
theorem d27_18 : decode jdk_43_method_27_code 18 = .ok (.iload_n 3, 1) := by decide +kernel
theorem d27_19 : decode jdk_43_method_27_code 19 = .ok (.ifCond .lt 19, 3) := by decide +kernel
theorem d27_22 : decode jdk_43_method_27_code 22 = .ok (.aload_n 0, 1) := by decide +kernel
theorem d27_23 : decode jdk_43_method_27_code 23 = .ok (.iload_n 3, 1) := by decide +kernel
theorem d27_24 : decode jdk_43_method_27_code 24 = .ok (.baload, 1) := by decide +kernel
theorem d27_25 : decode jdk_43_method_27_code 25 = .ok (.iload_n 1, 1) := by decide +kernel
theorem d27_26 : decode jdk_43_method_27_code 26 = .ok (.i2b, 1) := by decide +kernel
theorem d27_27 : decode jdk_43_method_27_code 27 = .ok (.if_icmp .ne 5, 3) := by decide +kernel
theorem d27_30 : decode jdk_43_method_27_code 30 = .ok (.iload_n 3, 1) := by decide +kernel
theorem d27_31 : decode jdk_43_method_27_code 31 = .ok (.ireturn, 1) := by decide +kernel
theorem d27_32 : decode jdk_43_method_27_code 32 = .ok (.iinc 3 (-1), 3) := by decide +kernel
theorem d27_35 : decode jdk_43_method_27_code 35 = .ok (.goto (-17), 3) := by decide +kernel
theorem d27_38 : decode jdk_43_method_27_code 38 = .ok (.iconst (-1), 1) := by decide +kernel
theorem d27_39 : decode jdk_43_method_27_code 39 = .ok (.ireturn, 1) := by decide +kernel
theorem ef_27 (m : MethodId) (x0 : Addr) (x1 : Int32) (x2 : Int32) : entryFrame m #[(.ref x0), (.int x1), (.int x2)] 4 = mkF m 0 #[.val (.ref x0), .val (.int x1), .val (.int x2), .unset] [] := by first | (simp [entryFrame, mkF, argsToLocals, Value.category]; done) | rfl
def Q27 (Z : State) (r0 : Addr) (kc : ClassId) (ch : Int32) (ix : Int32) (h0 : Heap) (n0 : Nat) (v : Option Value) (h : Heap) (L : List Loc) : Prop := v = some (.int ix) ∧ Fr n0 L ∧ h = h0
set_option maxRecDepth 65536 in
set_option maxHeartbeats 40000000 in
theorem rm27 (l : Launch) (Z : State) (a0 : Array Value) (hw : ∀ d ∈ tables_1, d.before a0 Z = true) (ws : List Jvm.Cond) (r0 : Addr) (kc : ClassId) (ch : Int32) (ix : Int32) (h0 : Heap) (n0 : Nat) (Z0 : n0 ≤ h0.size) (V_r0 : Arv Z h0 r0 kc .byte (1 : Int32) [(.int ch)] (.int (0 : Int32))) (hix : own_ix ch = ix) :
    MetFree l (⟨"java/lang/StringLatin1", "lastIndexOf", "([BII)I"⟩ : MethodName) (head1 (Jvm.Cond.code (⟨"java/lang/StringLatin1", "lastIndexOf", "([BII)I"⟩ : MethodName) jdk_43_method_27_code 4 (some .int) :: ws) ({ frames := 1, cells := 0, slots := 0, locals := 13 } : Room)) (fun a U => a = #[(.ref r0), (.int (42 : Int32)), (.int (0 : Int32))] ∧ Z.Warmed39 U.vm ∧ U.heap = h0) (fun _ _ _ _ _ => True) (fun _ U o U' => ∃ v L, o = .returned v ∧ Q27 Z r0 kc ch ix h0 n0 v U'.heap L ∧ FrameEnd U o U' L ({ frames := 1, cells := 0, slots := 0, locals := 13 } : Room).cells ({ frames := 1, cells := 0, slots := 0, locals := 13 } : Room).slots) := by
  refine MetFree.of_bodySF (plainFor_of_name pn1) hisR ?_
  intro p e s m args below meth c s₁ Bd hml0 hP hK
  obtain ⟨rfl, hZ, hh⟩ := hP
  have hx := Bd.exec
  have hby := Bd.bytes
  have hml : c.maxLocals = 4 := hml0
  have hown : s.vm.findClass "java/lang/StringLatin1" = some m.cls := findClass_of_methodNamed Bd.named
  have hnm := (name_of_methodNamed Bd.named Bd.method).1
  have X0 : Stand p l e ({ frames := 1, cells := 0, slots := 0, locals := 13 } : Room) s m #[(.ref r0), (.int (42 : Int32)), (.int (0 : Int32))] below meth c s₁ [] 0 0 := Stand.of_body Bd
  have e0 : s₁.heap = h0 := by rw [← hh, Bd.state]; rfl
  have N0 := Fr.nil n0
  have pre0 : ∀ t, Steps p.tables e below (s₁.setTop (mkF m 0 #[rv r0, iv (42 : Int32), iv (0 : Int32), .unset] [])) t → Steps p.tables e below (s₁.setTop (entryFrame m #[(.ref r0), (.int (42 : Int32)), (.int (0 : Int32))] 4)) t := fun t k => castTop (ef_27 m r0 (42 : Int32) (0 : Int32)) k
  have pre1 : ∀ t, Steps p.tables e below (s₁.setTop (mkF m 1 #[rv r0, iv (42 : Int32), iv (0 : Int32), .unset] [(.int (42 : Int32))])) t → Steps p.tables e below (s₁.setTop (entryFrame m #[(.ref r0), (.int (42 : Int32)), (.int (0 : Int32))] 4)) t := by
    intro t kt
    refine pre0 _ ?_
    show Steps p.tables e below (s₁.setTop (mkF m 0 #[rv r0, iv (42 : Int32), iv (0 : Int32), .unset] [])) _
    refine XS.iloadN X0.here hx rfl (hb hby d27_0) rfl ?_
    exact kt
  obtain ⟨_, _, ⟨T2, L2, k2, n2⟩, -, X2, ⟨Lc2, hQ2, l2, y2, z2⟩, st2⟩ := Jvm.LawKit.callS X0 hx (y := (⟨"java/lang/StringLatin1", "canEncode", "(I)Z"⟩ : MethodName)) hown (mvT hZ (hw _ (List.mem_of_getElem? (i := 101) rfl))) (mvT hZ (hw _ (List.mem_of_getElem? (i := 102) rfl))) (mvT hZ (hw _ (List.mem_of_getElem? (i := 12) rfl))) (mvT hZ (hw _ (List.mem_of_getElem? (i := 103) rfl))) (by decide) (backOf (W := 0) (rm21 l Z a0 hw []  h0 n0 (Nat.le_trans Z0 (Keep.refl h0 []).1)) hZ (hw _ (List.mem_of_getElem? (i := 103) rfl)) (hw _ (List.mem_of_getElem? (i := 12) rfl)) (by decide) (by decide)) (g := (mkF m 1 #[rv r0, iv (42 : Int32), iv (0 : Int32), .unset] [(.int (42 : Int32))])) rfl (by rw [hml]; rfl) (argsL := [(.int (42 : Int32))]) (rest := []) (lenOf pd18 rfl) rfl (by show 2 * 0 + _ ≤ _; exact Nat.le_of_eq rfl) (hb hby d27_1) (fun _ _ => ⟨rfl, e0, (by decide : 0 + 0 ≤ _), (by decide : 0 + 0 ≤ _)⟩)
  dsimp only [Pt.U, Pt.locs, Pt.cells, Pt.slots] at X2 l2 y2 z2 st2 hQ2
  subst l2 y2 z2
  obtain ⟨rfl, N2q, hh2⟩ := hQ2
  have N2 := Fr.app N0 N2q
  obtain ⟨cl3, Ar3, -, S3, M3, -, -⟩ := id V_r0
  have pre4 : ∀ t, Steps p.tables e below (T2.setTop (mkF m 14 #[rv r0, iv (42 : Int32), iv (0 : Int32), .unset] [(.int (0 : Int32)), (.int (0 : Int32))])) t → Steps p.tables e below (s₁.setTop (entryFrame m #[(.ref r0), (.int (42 : Int32)), (.int (0 : Int32))] 4)) t := by
    intro t kt
    refine pre1 _ ?_
    show Steps p.tables e below (s₁.setTop (mkF m 1 #[rv r0, iv (42 : Int32), iv (0 : Int32), .unset] [(.int (42 : Int32))])) _
    refine st2 _ ?_
    show Steps p.tables e below (T2.setTop (mkF m 4 #[rv r0, iv (42 : Int32), iv (0 : Int32), .unset] [(.int (1 : Int32))])) _
    refine XS.ifYes X2.here hx rfl (pc0 := 4) (pc' := 9) rfl (hb hby d27_4) rfl ((if0 _ _).trans (feq (by decide)).2) (by decide) (by decide) ?_
    refine XS.iloadN X2.here hx rfl (hb hby d27_9) rfl ?_
    refine XS.aloadN X2.here hx rfl (hb hby d27_10) rfl rfl ?_
    refine X2.arraylength hx (by rw [hh2]; exact Ar3.1) (State.isArrayOf_alike hZ.alike Ar3.2.1) (g := (mkF m 11 #[rv r0, iv (42 : Int32), iv (0 : Int32), .unset] [(.ref r0), (.int (0 : Int32))])) rfl rfl (hb hby d27_11) _ ?_
    rw [len_of S3 M3]
    show Steps p.tables e below (T2.setTop (mkF m 12 #[rv r0, iv (42 : Int32), iv (0 : Int32), .unset] [(.int (1 : Int32)), (.int (0 : Int32))])) _
    refine XS.iconst X2.here hx rfl (hb hby d27_12) ?_
    refine XS.isub X2.here hx rfl (hb hby d27_13) rfl ?_
    show Steps p.tables e below (T2.setTop (mkF m 14 #[rv r0, iv (42 : Int32), iv (0 : Int32), .unset] [(.int ((1 : Int32) - (1 : Int32))), (.int (0 : Int32))])) _
    rw [show ((1 : Int32) - (1 : Int32)) = (0 : Int32) from (by decide)]
    exact kt
  obtain ⟨_, _, ⟨T5, L5, k5, n5⟩, -, X5, ⟨Lc5, hQ5, l5, y5, z5⟩, st5⟩ := Jvm.LawKit.callS X2 hx (y := (⟨"java/lang/Math", "min", "(II)I"⟩ : MethodName)) hown (mvT hZ (hw _ (List.mem_of_getElem? (i := 108) rfl))) (mvT hZ (hw _ (List.mem_of_getElem? (i := 109) rfl))) (mvT hZ (hw _ (List.mem_of_getElem? (i := 106) rfl))) (mvT hZ (hw _ (List.mem_of_getElem? (i := 110) rfl))) (by decide) (backOf (W := 0) (rm23v0 l Z a0 hw []  h0 n0 (Nat.le_trans Z0 (Keep.refl h0 []).1)) hZ (hw _ (List.mem_of_getElem? (i := 110) rfl)) (hw _ (List.mem_of_getElem? (i := 106) rfl)) (by decide) (by decide)) (g := (mkF m 14 #[rv r0, iv (42 : Int32), iv (0 : Int32), .unset] [(.int (0 : Int32)), (.int (0 : Int32))])) rfl (by rw [hml]; rfl) (argsL := [(.int (0 : Int32)), (.int (0 : Int32))]) (rest := []) (lenOf pd19 rfl) rfl (by show 2 * 0 + _ ≤ _; exact Nat.le_of_eq rfl) (hb hby d27_14) (fun _ _ => ⟨rfl, hh2, (by decide : 0 + 0 ≤ _), (by decide : 0 + 0 ≤ _)⟩)
  dsimp only [Pt.U, Pt.locs, Pt.cells, Pt.slots] at X5 l5 y5 z5 st5 hQ5
  subst l5 y5 z5
  obtain ⟨rfl, N5q, hh5⟩ := hQ5
  have N5 := Fr.app N2 N5q
  obtain ⟨cl6, Ar6, q6, S6, M6, H6, G6⟩ := id V_r0
  have hin6 : ¬ ((0 : Int32) < 0 ∨ cl6.slots.size ≤ ((0 : Int32)).toNatClampNeg) := inb_of S6 ⟨by decide, by decide⟩
  have hat6 : cl6.slots[((0 : Int32)).toNatClampNeg]? = some (.int ch) := H6.at hin6 rfl
  have pre7 : ∀ t, Steps p.tables e below (T5.setTop (mkF m 27 #[rv r0, iv (42 : Int32), iv (0 : Int32), iv (0 : Int32)] [(.int (42 : Int32)), (.int ch)])) t → Steps p.tables e below (s₁.setTop (entryFrame m #[(.ref r0), (.int (42 : Int32)), (.int (0 : Int32))] 4)) t := by
    intro t kt
    refine pre4 _ ?_
    show Steps p.tables e below (T2.setTop (mkF m 14 #[rv r0, iv (42 : Int32), iv (0 : Int32), .unset] [(.int (0 : Int32)), (.int (0 : Int32))])) _
    refine st5 _ ?_
    show Steps p.tables e below (T5.setTop (mkF m 17 #[rv r0, iv (42 : Int32), iv (0 : Int32), .unset] [(.int (0 : Int32))])) _
    refine XS.istoreN X5.here hx rfl (hb hby d27_17) rfl (l' := #[rv r0, iv (42 : Int32), iv (0 : Int32), iv (0 : Int32)]) rfl ?_
    refine XS.iloadN X5.here hx rfl (hb hby d27_18) rfl ?_
    refine XS.ifNo X5.here hx rfl (hb hby d27_19) rfl ((if0 _ _).trans (flt (by decide)).1) ?_
    refine XS.aloadN X5.here hx rfl (hb hby d27_22) rfl rfl ?_
    refine XS.iloadN X5.here hx rfl (hb hby d27_23) rfl ?_
    refine X5.baloadBytes hx (j := (0 : Int32)) (v := (.int ch)) (by rw [hh5]; exact Ar6.1) (State.isArrayOf_alike hZ.alike Ar6.2.1) Ar6.2.2 hin6 hat6 (g := (mkF m 24 #[rv r0, iv (42 : Int32), iv (0 : Int32), iv (0 : Int32)] [(.int (0 : Int32)), (.ref r0)])) rfl rfl (hb hby d27_24) _ ?_
    show Steps p.tables e below (T5.setTop (mkF m 25 #[rv r0, iv (42 : Int32), iv (0 : Int32), iv (0 : Int32)] [(.int ch)])) _
    refine XS.iloadN X5.here hx rfl (hb hby d27_25) rfl ?_
    refine XS.i2b X5.here hx rfl (hb hby d27_26) rfl ?_
    show Steps p.tables e below (T5.setTop (mkF m 27 #[rv r0, iv (42 : Int32), iv (0 : Int32), iv (0 : Int32)] [(.int ((42 : Int32).toInt8.toInt32)), (.int ch)])) _
    rw [show ((42 : Int32).toInt8.toInt32) = (42 : Int32) from (by decide)]
    exact kt
  by_cases hc27 : ch = (42 : Int32)
  · have pre8 : ∀ t, Steps p.tables e below (T5.setTop (mkF m 31 #[rv r0, iv (42 : Int32), iv (0 : Int32), iv (0 : Int32)] [(.int (0 : Int32))])) t → Steps p.tables e below (s₁.setTop (entryFrame m #[(.ref r0), (.int (42 : Int32)), (.int (0 : Int32))] 4)) t := by
      intro t kt
      refine pre7 _ ?_
      show Steps p.tables e below (T5.setTop (mkF m 27 #[rv r0, iv (42 : Int32), iv (0 : Int32), iv (0 : Int32)] [(.int (42 : Int32)), (.int ch)])) _
      refine XS.icmpNo X5.here hx rfl (hb hby d27_27) rfl (teq hc27).2 ?_
      refine XS.iloadN X5.here hx rfl (hb hby d27_30) rfl ?_
      exact kt
    obtain ⟨fs, hr, hrun, hended, hW, hsame⟩ := X5.leave (v := some (.int (0 : Int32))) (fun h => by rw [Bd.returns] at h; cases h)
    refine ⟨_, _, pre8 _ ?_, hrun, hended, _, _, rfl, ?_, ⟨_, rfl⟩, hW, hsame.mono (by decide) (by decide)⟩
    · show Steps p.tables e below (T5.setTop (mkF m 31 #[rv r0, iv (42 : Int32), iv (0 : Int32), iv (0 : Int32)] [(.int (0 : Int32))])) _
      exact retI X5 hx Bd.returns (hb hby d27_31) hr
    · show Q27 Z r0 kc ch ix h0 n0 _ T5.heap _
      rw [hh5]
      exact ⟨congrArg (fun z => some (Value.int z)) (((if_pos hc27).trans rfl).symm.trans hix), N5, rfl⟩
  · have pre9 : ∀ t, Steps p.tables e below (T5.setTop (mkF m 39 #[rv r0, iv (42 : Int32), iv (0 : Int32), iv (-1 : Int32)] [(.int (-1 : Int32))])) t → Steps p.tables e below (s₁.setTop (entryFrame m #[(.ref r0), (.int (42 : Int32)), (.int (0 : Int32))] 4)) t := by
      intro t kt
      refine pre7 _ ?_
      show Steps p.tables e below (T5.setTop (mkF m 27 #[rv r0, iv (42 : Int32), iv (0 : Int32), iv (0 : Int32)] [(.int (42 : Int32)), (.int ch)])) _
      refine XS.icmpYes X5.here hx rfl (pc0 := 27) (pc' := 32) rfl (hb hby d27_27) rfl (feq hc27).2 (by decide) (by decide) ?_
      refine XS.iinc X5.here hx rfl (hb hby d27_32) rfl (l' := #[rv r0, iv (42 : Int32), iv (0 : Int32), iv ((0 : Int32) + (-1 : Int32))]) rfl ?_
      show Steps p.tables e below (T5.setTop (mkF m 35 #[rv r0, iv (42 : Int32), iv (0 : Int32), iv ((0 : Int32) + (-1 : Int32))] [])) _
      rw [show ((0 : Int32) + (-1 : Int32)) = (-1 : Int32) from (by decide)]
      show Steps p.tables e below (T5.setTop (mkF m 35 #[rv r0, iv (42 : Int32), iv (0 : Int32), iv (-1 : Int32)] [])) _
      refine XS.goto X5.here hx rfl (pc0 := 35) (pc' := 18) rfl (hb hby d27_35) (by decide) (by decide) ?_
      refine XS.iloadN X5.here hx rfl (hb hby d27_18) rfl ?_
      refine XS.ifYes X5.here hx rfl (pc0 := 19) (pc' := 38) rfl (hb hby d27_19) rfl ((if0 _ _).trans (tlt (by decide)).1) (by decide) (by decide) ?_
      refine XS.iconst X5.here hx rfl (hb hby d27_38) ?_
      exact kt
    obtain ⟨fs, hr, hrun, hended, hW, hsame⟩ := X5.leave (v := some (.int (-1 : Int32))) (fun h => by rw [Bd.returns] at h; cases h)
    refine ⟨_, _, pre9 _ ?_, hrun, hended, _, _, rfl, ?_, ⟨_, rfl⟩, hW, hsame.mono (by decide) (by decide)⟩
    · show Steps p.tables e below (T5.setTop (mkF m 39 #[rv r0, iv (42 : Int32), iv (0 : Int32), iv (-1 : Int32)] [(.int (-1 : Int32))])) _
      exact retI X5 hx Bd.returns (hb hby d27_39) hr
    · show Q27 Z r0 kc ch ix h0 n0 _ T5.heap _
      rw [hh5]
      exact ⟨congrArg (fun z => some (Value.int z)) (((if_neg hc27).trans rfl).symm.trans hix), N5, rfl⟩
theorem d26_0 : decode jdk_42_method_83_code 0 = .ok (.aload_n 0, 1) := by decide +kernel
theorem d26_1 : decode jdk_42_method_83_code 1 = .ok (.invokevirtual 492, 3) := by decide +kernel
theorem d26_4 : decode jdk_42_method_83_code 4 = .ok (.ifCond .eq 15, 3) := by decide +kernel
theorem d26_7 : decode jdk_42_method_83_code 7 = .ok (.aload_n 0, 1) := by decide +kernel
theorem d26_8 : decode jdk_42_method_83_code 8 = .ok (.getfield 9, 3) := by decide +kernel
theorem d26_11 : decode jdk_42_method_83_code 11 = .ok (.iload_n 1, 1) := by decide +kernel
theorem d26_12 : decode jdk_42_method_83_code 12 = .ok (.iload_n 2, 1) := by decide +kernel
theorem pd22 : parseMethodDescriptor "([BII)I" = some ⟨[(.array .byte), .int, .int], some .int⟩ := by decide +kernel
theorem d26_13 : decode jdk_42_method_83_code 13 = .ok (.invokestatic 644, 3) := by decide +kernel
theorem d26_16 : decode jdk_42_method_83_code 16 = .ok (.goto 12, 3) := by decide +kernel
theorem d26_28 : decode jdk_42_method_83_code 28 = .ok (.ireturn, 1) := by decide +kernel
theorem ef_26 (m : MethodId) (x0 : Addr) (x1 : Int32) (x2 : Int32) : entryFrame m #[(.ref x0), (.int x1), (.int x2)] 3 = mkF m 0 #[.val (.ref x0), .val (.int x1), .val (.int x2)] [] := by first | (simp [entryFrame, mkF, argsToLocals, Value.category]; done) | rfl
def Q26 (Z : State) (r0 : Addr) (va : Addr) (kc : ClassId) (ch : Int32) (ix : Int32) (cs : Int32) (h0 : Heap) (n0 : Nat) (v : Option Value) (h : Heap) (L : List Loc) : Prop := v = some (.int ix) ∧ Fr n0 L ∧ h = h0
set_option maxRecDepth 65536 in
set_option maxHeartbeats 40000000 in
theorem rm26 (l : Launch) (Z : State) (a0 : Array Value) (hw : ∀ d ∈ tables_1, d.before a0 Z = true) (ws : List Jvm.Cond) (r0 : Addr) (va : Addr) (kc : ClassId) (ch : Int32) (ix : Int32) (cs : Int32) (h0 : Heap) (n0 : Nat) (Z0 : n0 ≤ h0.size) (F_value_r0 : Fld Z h0 r0 "java/lang/String" "value" "[B" (.ref va)) (F_coder_r0 : Fld Z h0 r0 "java/lang/String" "coder" "B" (.int (0 : Int32))) (E_r0 : Exa Z h0 r0 "java/lang/String") (V_va : Arv Z h0 va kc .byte (1 : Int32) [(.int ch)] (.int (0 : Int32))) (O0 : Old Z n0 h0) (S_cs : Sta Z Z.heap "java/lang/String" "COMPACT_STRINGS" "Z" (.int cs)) (hcs : ¬ (cs = (0 : Int32))) (hix : own_ix ch = ix) :
    MetFree l (⟨"java/lang/String", "lastIndexOf", "(II)I"⟩ : MethodName) (head1 (Jvm.Cond.code (⟨"java/lang/String", "lastIndexOf", "(II)I"⟩ : MethodName) jdk_42_method_83_code 3 (some .int) :: ws) ({ frames := 2, cells := 0, slots := 0, locals := 28 } : Room)) (fun a U => a = #[(.ref r0), (.int (42 : Int32)), (.int (0 : Int32))] ∧ Z.Warmed39 U.vm ∧ U.heap = h0) (fun _ _ _ _ _ => True) (fun _ U o U' => ∃ v L, o = .returned v ∧ Q26 Z r0 va kc ch ix cs h0 n0 v U'.heap L ∧ FrameEnd U o U' L ({ frames := 2, cells := 0, slots := 0, locals := 28 } : Room).cells ({ frames := 2, cells := 0, slots := 0, locals := 28 } : Room).slots) := by
  refine MetFree.of_bodySF (plainFor_of_name pn2) hisR ?_
  intro p e s m args below meth c s₁ Bd hml0 hP hK
  obtain ⟨rfl, hZ, hh⟩ := hP
  have hx := Bd.exec
  have hby := Bd.bytes
  have hml : c.maxLocals = 3 := hml0
  have hown : s.vm.findClass "java/lang/String" = some m.cls := findClass_of_methodNamed Bd.named
  have hnm := (name_of_methodNamed Bd.named Bd.method).1
  have X0 : Stand p l e ({ frames := 2, cells := 0, slots := 0, locals := 28 } : Room) s m #[(.ref r0), (.int (42 : Int32)), (.int (0 : Int32))] below meth c s₁ [] 0 0 := Stand.of_body Bd
  have e0 : s₁.heap = h0 := by rw [← hh, Bd.state]; rfl
  have N0 := Fr.nil n0
  have pre0 : ∀ t, Steps p.tables e below (s₁.setTop (mkF m 0 #[rv r0, iv (42 : Int32), iv (0 : Int32)] [])) t → Steps p.tables e below (s₁.setTop (entryFrame m #[(.ref r0), (.int (42 : Int32)), (.int (0 : Int32))] 3)) t := fun t k => castTop (ef_26 m r0 (42 : Int32) (0 : Int32)) k
  have pre1 : ∀ t, Steps p.tables e below (s₁.setTop (mkF m 1 #[rv r0, iv (42 : Int32), iv (0 : Int32)] [(.ref r0)])) t → Steps p.tables e below (s₁.setTop (entryFrame m #[(.ref r0), (.int (42 : Int32)), (.int (0 : Int32))] 3)) t := by
    intro t kt
    refine pre0 _ ?_
    show Steps p.tables e below (s₁.setTop (mkF m 0 #[rv r0, iv (42 : Int32), iv (0 : Int32)] [])) _
    refine XS.aloadN X0.here hx rfl (hb hby d26_0) rfl rfl ?_
    exact kt
  obtain ⟨cq2, kq2, q2a, q2b, q2c⟩ := isOf hZ e0 E_r0
  obtain ⟨_, _, ⟨T2, L2, k2, n2⟩, -, X2, ⟨Lc2, hQ2, l2, y2, z2⟩, st2⟩ := X0.virtualBack hx (y := (⟨"java/lang/String", "isLatin1", "()Z"⟩ : MethodName)) (z := (⟨"java/lang/String", "isLatin1", "()Z"⟩ : MethodName)) hown (mvT hZ (hw _ (List.mem_of_getElem? (i := 64) rfl))) (mvT hZ (hw _ (List.mem_of_getElem? (i := 65) rfl))) (notFace_of_selects (args := #[]) (mvT hZ (hw _ (List.mem_of_getElem? (i := 67) rfl)))) (mvT hZ (hw _ (List.mem_of_getElem? (i := 67) rfl))) (mvT hZ (hw _ (List.mem_of_getElem? (i := 66) rfl))) (by decide) (backOf (W := 0) (rm13 l Z a0 hw [] r0 va cs h0 n0 (Nat.le_trans Z0 (Keep.refl h0 []).1) (O0.keep (Keep.refl h0 []) all0) S_cs hcs F_value_r0 F_coder_r0 E_r0) hZ (hw _ (List.mem_of_getElem? (i := 68) rfl)) (hw _ (List.mem_of_getElem? (i := 7) rfl)) (by decide) (by decide)) q2a q2c (g := (mkF m 1 #[rv r0, iv (42 : Int32), iv (0 : Int32)] [(.ref r0)])) rfl (by rw [hml]; rfl) (Steps.refl _) (argsL := []) (rest := []) (lenOf pd10 rfl) rfl (by show 2 * 0 + _ ≤ _; exact Nat.le_of_eq rfl) (hb hby d26_1) (fun _ _ => ⟨rfl, e0, (by decide : 0 + 0 ≤ _), (by decide : 0 + 0 ≤ _)⟩)
  dsimp only [Pt.U, Pt.locs, Pt.cells, Pt.slots] at X2 l2 y2 z2 st2 hQ2
  subst l2 y2 z2
  obtain ⟨rfl, N2q, hh2⟩ := hQ2
  have N2 := Fr.app N0 N2q
  have pre3 : ∀ t, Steps p.tables e below (T2.setTop (mkF m 8 #[rv r0, iv (42 : Int32), iv (0 : Int32)] [(.ref r0)])) t → Steps p.tables e below (s₁.setTop (entryFrame m #[(.ref r0), (.int (42 : Int32)), (.int (0 : Int32))] 3)) t := by
    intro t kt
    refine pre1 _ ?_
    show Steps p.tables e below (s₁.setTop (mkF m 1 #[rv r0, iv (42 : Int32), iv (0 : Int32)] [(.ref r0)])) _
    refine st2.trans ?_
    show Steps p.tables e below (T2.setTop (mkF m 4 #[rv r0, iv (42 : Int32), iv (0 : Int32)] [(.int (1 : Int32))])) _
    refine XS.ifNo X2.here hx rfl (hb hby d26_4) rfl ((if0 _ _).trans (feq (by decide)).1) ?_
    refine XS.aloadN X2.here hx rfl (hb hby d26_7) rfl rfl ?_
    exact kt
  obtain ⟨T4, X4, e4, st4⟩ := getF X2 hx hZ hown (host := "") (Or.inl (hw _ (List.mem_of_getElem? (i := 27) rfl))) Via.refl hh2 F_value_r0 (g := (mkF m 8 #[rv r0, iv (42 : Int32), iv (0 : Int32)] [(.ref r0)])) rfl rfl (hb hby d26_8)
  have pre5 : ∀ t, Steps p.tables e below (T4.setTop (mkF m 13 #[rv r0, iv (42 : Int32), iv (0 : Int32)] [(.int (0 : Int32)), (.int (42 : Int32)), (.ref va)])) t → Steps p.tables e below (s₁.setTop (entryFrame m #[(.ref r0), (.int (42 : Int32)), (.int (0 : Int32))] 3)) t := by
    intro t kt
    refine pre3 _ ?_
    show Steps p.tables e below (T2.setTop (mkF m 8 #[rv r0, iv (42 : Int32), iv (0 : Int32)] [(.ref r0)])) _
    refine st4 _ ?_
    show Steps p.tables e below (T4.setTop (mkF m 11 #[rv r0, iv (42 : Int32), iv (0 : Int32)] [(.ref va)])) _
    refine XS.iloadN X4.here hx rfl (hb hby d26_11) rfl ?_
    refine XS.iloadN X4.here hx rfl (hb hby d26_12) rfl ?_
    exact kt
  obtain ⟨_, _, ⟨T6, L6, k6, n6⟩, -, X6, ⟨Lc6, hQ6, l6, y6, z6⟩, st6⟩ := Jvm.LawKit.callS X4 hx (y := (⟨"java/lang/StringLatin1", "lastIndexOf", "([BII)I"⟩ : MethodName)) hown (mvT hZ (hw _ (List.mem_of_getElem? (i := 126) rfl))) (mvT hZ (hw _ (List.mem_of_getElem? (i := 127) rfl))) (mvT hZ (hw _ (List.mem_of_getElem? (i := 12) rfl))) (mvT hZ (hw _ (List.mem_of_getElem? (i := 128) rfl))) (by decide) (backOf (W := 0) (rm27 l Z a0 hw [] va kc ch ix h0 n0 (Nat.le_trans Z0 (Keep.refl h0 []).1) V_va hix) hZ (hw _ (List.mem_of_getElem? (i := 128) rfl)) (hw _ (List.mem_of_getElem? (i := 12) rfl)) (by decide) (by decide)) (g := (mkF m 13 #[rv r0, iv (42 : Int32), iv (0 : Int32)] [(.int (0 : Int32)), (.int (42 : Int32)), (.ref va)])) rfl (by rw [hml]; rfl) (argsL := [(.ref va), (.int (42 : Int32)), (.int (0 : Int32))]) (rest := []) (lenOf pd22 rfl) rfl (by show 2 * 0 + _ ≤ _; exact Nat.le_of_eq rfl) (hb hby d26_13) (fun _ _ => ⟨rfl, e4, (by decide : 0 + 0 ≤ _), (by decide : 0 + 0 ≤ _)⟩)
  dsimp only [Pt.U, Pt.locs, Pt.cells, Pt.slots] at X6 l6 y6 z6 st6 hQ6
  subst l6 y6 z6
  obtain ⟨rfl, N6q, hh6⟩ := hQ6
  have N6 := Fr.app N2 N6q
  have pre7 : ∀ t, Steps p.tables e below (T6.setTop (mkF m 28 #[rv r0, iv (42 : Int32), iv (0 : Int32)] [(.int ix)])) t → Steps p.tables e below (s₁.setTop (entryFrame m #[(.ref r0), (.int (42 : Int32)), (.int (0 : Int32))] 3)) t := by
    intro t kt
    refine pre5 _ ?_
    show Steps p.tables e below (T4.setTop (mkF m 13 #[rv r0, iv (42 : Int32), iv (0 : Int32)] [(.int (0 : Int32)), (.int (42 : Int32)), (.ref va)])) _
    refine st6 _ ?_
    show Steps p.tables e below (T6.setTop (mkF m 16 #[rv r0, iv (42 : Int32), iv (0 : Int32)] [(.int ix)])) _
    refine XS.goto X6.here hx rfl (pc0 := 16) (pc' := 28) rfl (hb hby d26_16) (by decide) (by decide) ?_
    exact kt
  obtain ⟨fs, hr, hrun, hended, hW, hsame⟩ := X6.leave (v := some (.int ix)) (fun h => by rw [Bd.returns] at h; cases h)
  refine ⟨_, _, pre7 _ ?_, hrun, hended, _, _, rfl, ?_, ⟨_, rfl⟩, hW, hsame.mono (by decide) (by decide)⟩
  · show Steps p.tables e below (T6.setTop (mkF m 28 #[rv r0, iv (42 : Int32), iv (0 : Int32)] [(.int ix)])) _
    exact retI X6 hx Bd.returns (hb hby d26_28) hr
  · show Q26 Z r0 va kc ch ix cs h0 n0 _ T6.heap _
    rw [hh6]
    exact ⟨rfl, N6, rfl⟩
theorem d25_0 : decode jdk_42_method_82_code 0 = .ok (.aload_n 0, 1) := by decide +kernel
theorem d25_1 : decode jdk_42_method_82_code 1 = .ok (.iload_n 1, 1) := by decide +kernel
theorem d25_2 : decode jdk_42_method_82_code 2 = .ok (.aload_n 0, 1) := by decide +kernel
theorem d25_3 : decode jdk_42_method_82_code 3 = .ok (.invokevirtual 505, 3) := by decide +kernel
theorem d25_6 : decode jdk_42_method_82_code 6 = .ok (.iconst 1, 1) := by decide +kernel
theorem d25_7 : decode jdk_42_method_82_code 7 = .ok (.isub, 1) := by decide +kernel
theorem d25_8 : decode jdk_42_method_82_code 8 = .ok (.invokevirtual 641, 3) := by decide +kernel
theorem d25_11 : decode jdk_42_method_82_code 11 = .ok (.ireturn, 1) := by decide +kernel
theorem ef_25 (m : MethodId) (x0 : Addr) (x1 : Int32) : entryFrame m #[(.ref x0), (.int x1)] 2 = mkF m 0 #[.val (.ref x0), .val (.int x1)] [] := by first | (simp [entryFrame, mkF, argsToLocals, Value.category]; done) | rfl
def Q25 (Z : State) (r0 : Addr) (va : Addr) (kc : ClassId) (ch : Int32) (ix : Int32) (cs : Int32) (h0 : Heap) (n0 : Nat) (v : Option Value) (h : Heap) (L : List Loc) : Prop := v = some (.int ix) ∧ Fr n0 L ∧ h = h0
set_option maxRecDepth 65536 in
set_option maxHeartbeats 40000000 in
theorem rm25 (l : Launch) (Z : State) (a0 : Array Value) (hw : ∀ d ∈ tables_1, d.before a0 Z = true) (ws : List Jvm.Cond) (r0 : Addr) (va : Addr) (kc : ClassId) (ch : Int32) (ix : Int32) (cs : Int32) (h0 : Heap) (n0 : Nat) (Z0 : n0 ≤ h0.size) (F_value_r0 : Fld Z h0 r0 "java/lang/String" "value" "[B" (.ref va)) (F_coder_r0 : Fld Z h0 r0 "java/lang/String" "coder" "B" (.int (0 : Int32))) (E_r0 : Exa Z h0 r0 "java/lang/String") (V_va : Arv Z h0 va kc .byte (1 : Int32) [(.int ch)] (.int (0 : Int32))) (O0 : Old Z n0 h0) (S_cs : Sta Z Z.heap "java/lang/String" "COMPACT_STRINGS" "Z" (.int cs)) (hcs : ¬ (cs = (0 : Int32))) (hix : own_ix ch = ix) :
    MetFree l (⟨"java/lang/String", "lastIndexOf", "(I)I"⟩ : MethodName) (head1 (Jvm.Cond.code (⟨"java/lang/String", "lastIndexOf", "(I)I"⟩ : MethodName) jdk_42_method_82_code 2 (some .int) :: ws) ({ frames := 3, cells := 0, slots := 0, locals := 42 } : Room)) (fun a U => a = #[(.ref r0), (.int (42 : Int32))] ∧ Z.Warmed39 U.vm ∧ U.heap = h0) (fun _ _ _ _ _ => True) (fun _ U o U' => ∃ v L, o = .returned v ∧ Q25 Z r0 va kc ch ix cs h0 n0 v U'.heap L ∧ FrameEnd U o U' L ({ frames := 3, cells := 0, slots := 0, locals := 42 } : Room).cells ({ frames := 3, cells := 0, slots := 0, locals := 42 } : Room).slots) := by
  refine MetFree.of_bodySF (plainFor_of_name pn2) hisR ?_
  intro p e s m args below meth c s₁ Bd hml0 hP hK
  obtain ⟨rfl, hZ, hh⟩ := hP
  have hx := Bd.exec
  have hby := Bd.bytes
  have hml : c.maxLocals = 2 := hml0
  have hown : s.vm.findClass "java/lang/String" = some m.cls := findClass_of_methodNamed Bd.named
  have hnm := (name_of_methodNamed Bd.named Bd.method).1
  have X0 : Stand p l e ({ frames := 3, cells := 0, slots := 0, locals := 42 } : Room) s m #[(.ref r0), (.int (42 : Int32))] below meth c s₁ [] 0 0 := Stand.of_body Bd
  have e0 : s₁.heap = h0 := by rw [← hh, Bd.state]; rfl
  have N0 := Fr.nil n0
  have pre0 : ∀ t, Steps p.tables e below (s₁.setTop (mkF m 0 #[rv r0, iv (42 : Int32)] [])) t → Steps p.tables e below (s₁.setTop (entryFrame m #[(.ref r0), (.int (42 : Int32))] 2)) t := fun t k => castTop (ef_25 m r0 (42 : Int32)) k
  have pre1 : ∀ t, Steps p.tables e below (s₁.setTop (mkF m 3 #[rv r0, iv (42 : Int32)] [(.ref r0), (.int (42 : Int32)), (.ref r0)])) t → Steps p.tables e below (s₁.setTop (entryFrame m #[(.ref r0), (.int (42 : Int32))] 2)) t := by
    intro t kt
    refine pre0 _ ?_
    show Steps p.tables e below (s₁.setTop (mkF m 0 #[rv r0, iv (42 : Int32)] [])) _
    refine XS.aloadN X0.here hx rfl (hb hby d25_0) rfl rfl ?_
    refine XS.iloadN X0.here hx rfl (hb hby d25_1) rfl ?_
    refine XS.aloadN X0.here hx rfl (hb hby d25_2) rfl rfl ?_
    exact kt
  obtain ⟨cq2, kq2, q2a, q2b, q2c⟩ := isOf hZ e0 E_r0
  obtain ⟨_, _, ⟨T2, L2, k2, n2⟩, -, X2, ⟨Lc2, hQ2, l2, y2, z2⟩, st2⟩ := X0.virtualBack hx (y := (⟨"java/lang/String", "length", "()I"⟩ : MethodName)) (z := (⟨"java/lang/String", "length", "()I"⟩ : MethodName)) hown (mvT hZ (hw _ (List.mem_of_getElem? (i := 93) rfl))) (mvT hZ (hw _ (List.mem_of_getElem? (i := 94) rfl))) (notFace_of_selects (args := #[]) (mvT hZ (hw _ (List.mem_of_getElem? (i := 96) rfl)))) (mvT hZ (hw _ (List.mem_of_getElem? (i := 96) rfl))) (mvT hZ (hw _ (List.mem_of_getElem? (i := 95) rfl))) (by decide) (backOf (W := 2) (rm19 l Z a0 hw [] r0 va kc ch cs h0 n0 (Nat.le_trans Z0 (Keep.refl h0 []).1) F_value_r0 F_coder_r0 E_r0 V_va (O0.keep (Keep.refl h0 []) all0) S_cs hcs) hZ (hw _ (List.mem_of_getElem? (i := 97) rfl)) (hw _ (List.mem_of_getElem? (i := 7) rfl)) (by decide) (by decide)) q2a q2c (g := (mkF m 3 #[rv r0, iv (42 : Int32)] [(.ref r0), (.int (42 : Int32)), (.ref r0)])) rfl (by rw [hml]; rfl) (Steps.refl _) (argsL := []) (rest := [(.int (42 : Int32)), (.ref r0)]) (lenOf pd21 rfl) rfl (by show 2 * 0 + _ ≤ _; exact Nat.le_of_eq rfl) (hb hby d25_3) (fun _ _ => ⟨rfl, e0, (by decide : 0 + 0 ≤ _), (by decide : 0 + 0 ≤ _)⟩)
  dsimp only [Pt.U, Pt.locs, Pt.cells, Pt.slots] at X2 l2 y2 z2 st2 hQ2
  subst l2 y2 z2
  obtain ⟨rfl, N2q, hh2⟩ := hQ2
  have N2 := Fr.app N0 N2q
  have pre3 : ∀ t, Steps p.tables e below (T2.setTop (mkF m 8 #[rv r0, iv (42 : Int32)] [(.int (0 : Int32)), (.int (42 : Int32)), (.ref r0)])) t → Steps p.tables e below (s₁.setTop (entryFrame m #[(.ref r0), (.int (42 : Int32))] 2)) t := by
    intro t kt
    refine pre1 _ ?_
    show Steps p.tables e below (s₁.setTop (mkF m 3 #[rv r0, iv (42 : Int32)] [(.ref r0), (.int (42 : Int32)), (.ref r0)])) _
    refine st2.trans ?_
    show Steps p.tables e below (T2.setTop (mkF m 6 #[rv r0, iv (42 : Int32)] [(.int (1 : Int32)), (.int (42 : Int32)), (.ref r0)])) _
    refine XS.iconst X2.here hx rfl (hb hby d25_6) ?_
    refine XS.isub X2.here hx rfl (hb hby d25_7) rfl ?_
    show Steps p.tables e below (T2.setTop (mkF m 8 #[rv r0, iv (42 : Int32)] [(.int ((1 : Int32) - (1 : Int32))), (.int (42 : Int32)), (.ref r0)])) _
    rw [show ((1 : Int32) - (1 : Int32)) = (0 : Int32) from (by decide)]
    exact kt
  obtain ⟨cq4, kq4, q4a, q4b, q4c⟩ := isOf hZ hh2 E_r0
  obtain ⟨_, _, ⟨T4, L4, k4, n4⟩, -, X4, ⟨Lc4, hQ4, l4, y4, z4⟩, st4⟩ := X2.virtualBack hx (y := (⟨"java/lang/String", "lastIndexOf", "(II)I"⟩ : MethodName)) (z := (⟨"java/lang/String", "lastIndexOf", "(II)I"⟩ : MethodName)) hown (mvT hZ (hw _ (List.mem_of_getElem? (i := 121) rfl))) (mvT hZ (hw _ (List.mem_of_getElem? (i := 122) rfl))) (notFace_of_selects (args := #[]) (mvT hZ (hw _ (List.mem_of_getElem? (i := 124) rfl)))) (mvT hZ (hw _ (List.mem_of_getElem? (i := 124) rfl))) (mvT hZ (hw _ (List.mem_of_getElem? (i := 123) rfl))) (by decide) (backOf (W := 0) (rm26 l Z a0 hw [] r0 va kc ch ix cs h0 n0 (Nat.le_trans Z0 (Keep.refl h0 []).1) F_value_r0 F_coder_r0 E_r0 V_va (O0.keep (Keep.refl h0 []) all0) S_cs hcs hix) hZ (hw _ (List.mem_of_getElem? (i := 125) rfl)) (hw _ (List.mem_of_getElem? (i := 7) rfl)) (by decide) (by decide)) q4a q4c (g := (mkF m 8 #[rv r0, iv (42 : Int32)] [(.int (0 : Int32)), (.int (42 : Int32)), (.ref r0)])) rfl (by rw [hml]; rfl) (Steps.refl _) (argsL := [(.int (42 : Int32)), (.int (0 : Int32))]) (rest := []) (lenOf pd19 rfl) rfl (by show 2 * 0 + _ ≤ _; exact Nat.le_of_eq rfl) (hb hby d25_8) (fun _ _ => ⟨rfl, hh2, (by decide : 0 + 0 ≤ _), (by decide : 0 + 0 ≤ _)⟩)
  dsimp only [Pt.U, Pt.locs, Pt.cells, Pt.slots] at X4 l4 y4 z4 st4 hQ4
  subst l4 y4 z4
  obtain ⟨rfl, N4q, hh4⟩ := hQ4
  have N4 := Fr.app N2 N4q
  have pre5 : ∀ t, Steps p.tables e below (T4.setTop (mkF m 11 #[rv r0, iv (42 : Int32)] [(.int ix)])) t → Steps p.tables e below (s₁.setTop (entryFrame m #[(.ref r0), (.int (42 : Int32))] 2)) t := by
    intro t kt
    refine pre3 _ ?_
    show Steps p.tables e below (T2.setTop (mkF m 8 #[rv r0, iv (42 : Int32)] [(.int (0 : Int32)), (.int (42 : Int32)), (.ref r0)])) _
    refine st4.trans ?_
    exact kt
  obtain ⟨fs, hr, hrun, hended, hW, hsame⟩ := X4.leave (v := some (.int ix)) (fun h => by rw [Bd.returns] at h; cases h)
  refine ⟨_, _, pre5 _ ?_, hrun, hended, _, _, rfl, ?_, ⟨_, rfl⟩, hW, hsame.mono (by decide) (by decide)⟩
  · show Steps p.tables e below (T4.setTop (mkF m 11 #[rv r0, iv (42 : Int32)] [(.int ix)])) _
    exact retI X4 hx Bd.returns (hb hby d25_11) hr
  · show Q25 Z r0 va kc ch ix cs h0 n0 _ T4.heap _
    rw [hh4]
    exact ⟨rfl, N4, rfl⟩
def own_b1 (x : Int64) : Int64 := (x - (((x.toUInt64 >>> ((1 : Int32) &&& 0x3f).toInt64.toUInt64).toInt64) &&& (6148914691236517205 : Int64)))
def own_b2 (x : Int64) : Int64 := ((x &&& (3689348814741910323 : Int64)) + (((x.toUInt64 >>> ((2 : Int32) &&& 0x3f).toInt64.toUInt64).toInt64) &&& (3689348814741910323 : Int64)))
def own_b3 (x : Int64) : Int64 := ((x + ((x.toUInt64 >>> ((4 : Int32) &&& 0x3f).toInt64.toUInt64).toInt64)) &&& (1085102592571150095 : Int64))
def own_b4 (x : Int64) : Int64 := (x + ((x.toUInt64 >>> ((8 : Int32) &&& 0x3f).toInt64.toUInt64).toInt64))
def own_b5 (x : Int64) : Int64 := (x + ((x.toUInt64 >>> ((16 : Int32) &&& 0x3f).toInt64.toUInt64).toInt64))
def own_b6 (x : Int64) : Int64 := (x + ((x.toUInt64 >>> ((32 : Int32) &&& 0x3f).toInt64.toUInt64).toInt64))
def own_bc (q0 : Int64) : Int32 := (((own_b6 (own_b5 (own_b4 (own_b3 (own_b2 (own_b1 q0)))))).toInt32) &&& (127 : Int32))
theorem pn23 : plainName "java/lang/Long" = true := by first | (simp [plainName, overriddenIn]; done) | decide +kernel
theorem d33_0 : decode jdk_35_method_50_code 0 = .ok (.lload_n 0, 1) := by decide +kernel
theorem d33_1 : decode jdk_35_method_50_code 1 = .ok (.lload_n 0, 1) := by decide +kernel
theorem d33_2 : decode jdk_35_method_50_code 2 = .ok (.iconst 1, 1) := by decide +kernel
theorem d33_3 : decode jdk_35_method_50_code 3 = .ok (.lushr, 1) := by decide +kernel
theorem d33_4 : decode jdk_35_method_50_code 4 = .ok (.ldc2_w 314, 3) := by decide +kernel
theorem d33_7 : decode jdk_35_method_50_code 7 = .ok (.land, 1) := by decide +kernel
theorem d33_8 : decode jdk_35_method_50_code 8 = .ok (.lsub, 1) := by decide +kernel
theorem d33_9 : decode jdk_35_method_50_code 9 = .ok (.lstore_n 0, 1) := by decide +kernel
theorem d33_10 : decode jdk_35_method_50_code 10 = .ok (.lload_n 0, 1) := by decide +kernel
theorem d33_11 : decode jdk_35_method_50_code 11 = .ok (.ldc2_w 316, 3) := by decide +kernel
theorem d33_14 : decode jdk_35_method_50_code 14 = .ok (.land, 1) := by decide +kernel
theorem d33_15 : decode jdk_35_method_50_code 15 = .ok (.lload_n 0, 1) := by decide +kernel
theorem d33_16 : decode jdk_35_method_50_code 16 = .ok (.iconst 2, 1) := by decide +kernel
theorem d33_17 : decode jdk_35_method_50_code 17 = .ok (.lushr, 1) := by decide +kernel
theorem d33_18 : decode jdk_35_method_50_code 18 = .ok (.ldc2_w 316, 3) := by decide +kernel
theorem d33_21 : decode jdk_35_method_50_code 21 = .ok (.land, 1) := by decide +kernel
theorem d33_22 : decode jdk_35_method_50_code 22 = .ok (.ladd, 1) := by decide +kernel
theorem d33_23 : decode jdk_35_method_50_code 23 = .ok (.lstore_n 0, 1) := by decide +kernel
theorem d33_24 : decode jdk_35_method_50_code 24 = .ok (.lload_n 0, 1) := by decide +kernel
theorem d33_25 : decode jdk_35_method_50_code 25 = .ok (.lload_n 0, 1) := by decide +kernel
theorem d33_26 : decode jdk_35_method_50_code 26 = .ok (.iconst 4, 1) := by decide +kernel
theorem d33_27 : decode jdk_35_method_50_code 27 = .ok (.lushr, 1) := by decide +kernel
theorem d33_28 : decode jdk_35_method_50_code 28 = .ok (.ladd, 1) := by decide +kernel
theorem d33_29 : decode jdk_35_method_50_code 29 = .ok (.ldc2_w 318, 3) := by decide +kernel
theorem d33_32 : decode jdk_35_method_50_code 32 = .ok (.land, 1) := by decide +kernel
theorem d33_33 : decode jdk_35_method_50_code 33 = .ok (.lstore_n 0, 1) := by decide +kernel
theorem d33_34 : decode jdk_35_method_50_code 34 = .ok (.lload_n 0, 1) := by decide +kernel
theorem d33_35 : decode jdk_35_method_50_code 35 = .ok (.lload_n 0, 1) := by decide +kernel
theorem d33_36 : decode jdk_35_method_50_code 36 = .ok (.bipush 8, 2) := by decide +kernel
theorem d33_38 : decode jdk_35_method_50_code 38 = .ok (.lushr, 1) := by decide +kernel
theorem d33_39 : decode jdk_35_method_50_code 39 = .ok (.ladd, 1) := by decide +kernel
theorem d33_40 : decode jdk_35_method_50_code 40 = .ok (.lstore_n 0, 1) := by decide +kernel
theorem d33_41 : decode jdk_35_method_50_code 41 = .ok (.lload_n 0, 1) := by decide +kernel
theorem d33_42 : decode jdk_35_method_50_code 42 = .ok (.lload_n 0, 1) := by decide +kernel
theorem d33_43 : decode jdk_35_method_50_code 43 = .ok (.bipush 16, 2) := by decide +kernel
theorem d33_45 : decode jdk_35_method_50_code 45 = .ok (.lushr, 1) := by decide +kernel
theorem d33_46 : decode jdk_35_method_50_code 46 = .ok (.ladd, 1) := by decide +kernel
theorem d33_47 : decode jdk_35_method_50_code 47 = .ok (.lstore_n 0, 1) := by decide +kernel
theorem d33_48 : decode jdk_35_method_50_code 48 = .ok (.lload_n 0, 1) := by decide +kernel
theorem d33_49 : decode jdk_35_method_50_code 49 = .ok (.lload_n 0, 1) := by decide +kernel
theorem d33_50 : decode jdk_35_method_50_code 50 = .ok (.bipush 32, 2) := by decide +kernel
theorem d33_52 : decode jdk_35_method_50_code 52 = .ok (.lushr, 1) := by decide +kernel
theorem d33_53 : decode jdk_35_method_50_code 53 = .ok (.ladd, 1) := by decide +kernel
theorem d33_54 : decode jdk_35_method_50_code 54 = .ok (.lstore_n 0, 1) := by decide +kernel
theorem d33_55 : decode jdk_35_method_50_code 55 = .ok (.lload_n 0, 1) := by decide +kernel
theorem d33_56 : decode jdk_35_method_50_code 56 = .ok (.l2i, 1) := by decide +kernel
theorem d33_57 : decode jdk_35_method_50_code 57 = .ok (.bipush 127, 2) := by decide +kernel
theorem d33_59 : decode jdk_35_method_50_code 59 = .ok (.iand, 1) := by decide +kernel
theorem d33_60 : decode jdk_35_method_50_code 60 = .ok (.ireturn, 1) := by decide +kernel
theorem ef_33 (m : MethodId) (x0 : Int64) : entryFrame m #[(.long x0)] 2 = mkF m 0 #[.val (.long x0), .second] [] := by first | (simp [entryFrame, mkF, argsToLocals, Value.category]; done) | rfl
def Q33 (Z : State) (q0 : Int64) (w : Int32) (h0 : Heap) (n0 : Nat) (v : Option Value) (h : Heap) (L : List Loc) : Prop := v = some (.int w) ∧ Fr n0 L ∧ h = h0
set_option maxRecDepth 65536 in
set_option maxHeartbeats 40000000 in
theorem rm33 (l : Launch) (Z : State) (a0 : Array Value) (hw : ∀ d ∈ tables_1, d.before a0 Z = true) (ws : List Jvm.Cond) (q0 : Int64) (w : Int32) (h0 : Heap) (n0 : Nat) (Z0 : n0 ≤ h0.size) (hv : own_bc q0 = w) :
    MetFree l (⟨"java/lang/Long", "bitCount", "(J)I"⟩ : MethodName) (head1 (Jvm.Cond.code (⟨"java/lang/Long", "bitCount", "(J)I"⟩ : MethodName) jdk_35_method_50_code 2 (some .int) :: ws) ({ frames := 0, cells := 0, slots := 0, locals := 0 } : Room)) (fun a U => a = #[(.long q0)] ∧ Z.Warmed39 U.vm ∧ U.heap = h0) (fun _ _ _ _ _ => True) (fun _ U o U' => ∃ v L, o = .returned v ∧ Q33 Z q0 w h0 n0 v U'.heap L ∧ FrameEnd U o U' L ({ frames := 0, cells := 0, slots := 0, locals := 0 } : Room).cells ({ frames := 0, cells := 0, slots := 0, locals := 0 } : Room).slots) := by
  refine MetFree.of_bodySF (plainFor_of_name pn23) hisR ?_
  intro p e s m args below meth c s₁ Bd hml0 hP hK
  obtain ⟨rfl, hZ, hh⟩ := hP
  have hx := Bd.exec
  have hby := Bd.bytes
  have hml : c.maxLocals = 2 := hml0
  have hown : s.vm.findClass "java/lang/Long" = some m.cls := findClass_of_methodNamed Bd.named
  have hnm := (name_of_methodNamed Bd.named Bd.method).1
  have X0 : Stand p l e ({ frames := 0, cells := 0, slots := 0, locals := 0 } : Room) s m #[(.long q0)] below meth c s₁ [] 0 0 := Stand.of_body Bd
  have e0 : s₁.heap = h0 := by rw [← hh, Bd.state]; rfl
  have N0 := Fr.nil n0
  have pre0 : ∀ t, Steps p.tables e below (s₁.setTop (mkF m 0 #[.val (.long q0), .second] [])) t → Steps p.tables e below (s₁.setTop (entryFrame m #[(.long q0)] 2)) t := fun t k => castTop (ef_33 m q0) k
  have pre1 : ∀ t, Steps p.tables e below (s₁.setTop (mkF m 60 #[.val (.long (own_b6 (own_b5 (own_b4 (own_b3 (own_b2 (own_b1 q0))))))), .second] [(.int (own_bc q0))])) t → Steps p.tables e below (s₁.setTop (entryFrame m #[(.long q0)] 2)) t := by
    intro t kt
    refine pre0 _ ?_
    show Steps p.tables e below (s₁.setTop (mkF m 0 #[.val (.long q0), .second] [])) _
    refine XS.lloadN X0.here hx rfl (hb hby d33_0) rfl ?_
    refine XS.lloadN X0.here hx rfl (hb hby d33_1) rfl ?_
    refine XS.iconst X0.here hx rfl (hb hby d33_2) ?_
    refine XS.lushr X0.here hx rfl (hb hby d33_3) rfl ?_
    refine X0.ldc2Long hx hown (mvT hZ (hw _ (List.mem_of_getElem? (i := 168) rfl))) (g := (mkF m 4 #[.val (.long q0), .second] [(.long ((q0.toUInt64 >>> ((1 : Int32) &&& 0x3f).toInt64.toUInt64).toInt64)), (.long q0)])) rfl (hb hby d33_4) _ ?_
    show Steps p.tables e below (s₁.setTop (mkF m 7 #[.val (.long q0), .second] [(.long (6148914691236517205 : Int64)), (.long ((q0.toUInt64 >>> ((1 : Int32) &&& 0x3f).toInt64.toUInt64).toInt64)), (.long q0)])) _
    refine XS.land X0.here hx rfl (hb hby d33_7) rfl ?_
    refine XS.lsub X0.here hx rfl (hb hby d33_8) rfl ?_
    show Steps p.tables e below (s₁.setTop (mkF m 9 #[.val (.long q0), .second] [(.long (q0 - (((q0.toUInt64 >>> ((1 : Int32) &&& 0x3f).toInt64.toUInt64).toInt64) &&& (6148914691236517205 : Int64))))])) _
    rw [show (q0 - (((q0.toUInt64 >>> ((1 : Int32) &&& 0x3f).toInt64.toUInt64).toInt64) &&& (6148914691236517205 : Int64))) = (own_b1 q0) from rfl]
    show Steps p.tables e below (s₁.setTop (mkF m 9 #[.val (.long q0), .second] [(.long (own_b1 q0))])) _
    refine XS.lstoreN X0.here hx rfl (hb hby d33_9) rfl (l' := #[.val (.long (own_b1 q0)), .second]) rfl ?_
    refine XS.lloadN X0.here hx rfl (hb hby d33_10) rfl ?_
    refine X0.ldc2Long hx hown (mvT hZ (hw _ (List.mem_of_getElem? (i := 169) rfl))) (g := (mkF m 11 #[.val (.long (own_b1 q0)), .second] [(.long (own_b1 q0))])) rfl (hb hby d33_11) _ ?_
    show Steps p.tables e below (s₁.setTop (mkF m 14 #[.val (.long (own_b1 q0)), .second] [(.long (3689348814741910323 : Int64)), (.long (own_b1 q0))])) _
    refine XS.land X0.here hx rfl (hb hby d33_14) rfl ?_
    refine XS.lloadN X0.here hx rfl (hb hby d33_15) rfl ?_
    refine XS.iconst X0.here hx rfl (hb hby d33_16) ?_
    refine XS.lushr X0.here hx rfl (hb hby d33_17) rfl ?_
    refine X0.ldc2Long hx hown (mvT hZ (hw _ (List.mem_of_getElem? (i := 169) rfl))) (g := (mkF m 18 #[.val (.long (own_b1 q0)), .second] [(.long (((own_b1 q0).toUInt64 >>> ((2 : Int32) &&& 0x3f).toInt64.toUInt64).toInt64)), (.long ((own_b1 q0) &&& (3689348814741910323 : Int64)))])) rfl (hb hby d33_18) _ ?_
    show Steps p.tables e below (s₁.setTop (mkF m 21 #[.val (.long (own_b1 q0)), .second] [(.long (3689348814741910323 : Int64)), (.long (((own_b1 q0).toUInt64 >>> ((2 : Int32) &&& 0x3f).toInt64.toUInt64).toInt64)), (.long ((own_b1 q0) &&& (3689348814741910323 : Int64)))])) _
    refine XS.land X0.here hx rfl (hb hby d33_21) rfl ?_
    refine XS.ladd X0.here hx rfl (hb hby d33_22) rfl ?_
    show Steps p.tables e below (s₁.setTop (mkF m 23 #[.val (.long (own_b1 q0)), .second] [(.long (((own_b1 q0) &&& (3689348814741910323 : Int64)) + ((((own_b1 q0).toUInt64 >>> ((2 : Int32) &&& 0x3f).toInt64.toUInt64).toInt64) &&& (3689348814741910323 : Int64))))])) _
    rw [show (((own_b1 q0) &&& (3689348814741910323 : Int64)) + ((((own_b1 q0).toUInt64 >>> ((2 : Int32) &&& 0x3f).toInt64.toUInt64).toInt64) &&& (3689348814741910323 : Int64))) = (own_b2 (own_b1 q0)) from rfl]
    show Steps p.tables e below (s₁.setTop (mkF m 23 #[.val (.long (own_b1 q0)), .second] [(.long (own_b2 (own_b1 q0)))])) _
    refine XS.lstoreN X0.here hx rfl (hb hby d33_23) rfl (l' := #[.val (.long (own_b2 (own_b1 q0))), .second]) rfl ?_
    refine XS.lloadN X0.here hx rfl (hb hby d33_24) rfl ?_
    refine XS.lloadN X0.here hx rfl (hb hby d33_25) rfl ?_
    refine XS.iconst X0.here hx rfl (hb hby d33_26) ?_
    refine XS.lushr X0.here hx rfl (hb hby d33_27) rfl ?_
    refine XS.ladd X0.here hx rfl (hb hby d33_28) rfl ?_
    refine X0.ldc2Long hx hown (mvT hZ (hw _ (List.mem_of_getElem? (i := 170) rfl))) (g := (mkF m 29 #[.val (.long (own_b2 (own_b1 q0))), .second] [(.long ((own_b2 (own_b1 q0)) + (((own_b2 (own_b1 q0)).toUInt64 >>> ((4 : Int32) &&& 0x3f).toInt64.toUInt64).toInt64)))])) rfl (hb hby d33_29) _ ?_
    show Steps p.tables e below (s₁.setTop (mkF m 32 #[.val (.long (own_b2 (own_b1 q0))), .second] [(.long (1085102592571150095 : Int64)), (.long ((own_b2 (own_b1 q0)) + (((own_b2 (own_b1 q0)).toUInt64 >>> ((4 : Int32) &&& 0x3f).toInt64.toUInt64).toInt64)))])) _
    refine XS.land X0.here hx rfl (hb hby d33_32) rfl ?_
    show Steps p.tables e below (s₁.setTop (mkF m 33 #[.val (.long (own_b2 (own_b1 q0))), .second] [(.long (((own_b2 (own_b1 q0)) + (((own_b2 (own_b1 q0)).toUInt64 >>> ((4 : Int32) &&& 0x3f).toInt64.toUInt64).toInt64)) &&& (1085102592571150095 : Int64)))])) _
    rw [show (((own_b2 (own_b1 q0)) + (((own_b2 (own_b1 q0)).toUInt64 >>> ((4 : Int32) &&& 0x3f).toInt64.toUInt64).toInt64)) &&& (1085102592571150095 : Int64)) = (own_b3 (own_b2 (own_b1 q0))) from rfl]
    show Steps p.tables e below (s₁.setTop (mkF m 33 #[.val (.long (own_b2 (own_b1 q0))), .second] [(.long (own_b3 (own_b2 (own_b1 q0))))])) _
    refine XS.lstoreN X0.here hx rfl (hb hby d33_33) rfl (l' := #[.val (.long (own_b3 (own_b2 (own_b1 q0)))), .second]) rfl ?_
    refine XS.lloadN X0.here hx rfl (hb hby d33_34) rfl ?_
    refine XS.lloadN X0.here hx rfl (hb hby d33_35) rfl ?_
    refine XS.bipush X0.here hx rfl (hb hby d33_36) ?_
    refine XS.lushr X0.here hx rfl (hb hby d33_38) rfl ?_
    refine XS.ladd X0.here hx rfl (hb hby d33_39) rfl ?_
    show Steps p.tables e below (s₁.setTop (mkF m 40 #[.val (.long (own_b3 (own_b2 (own_b1 q0)))), .second] [(.long ((own_b3 (own_b2 (own_b1 q0))) + (((own_b3 (own_b2 (own_b1 q0))).toUInt64 >>> ((8 : Int32) &&& 0x3f).toInt64.toUInt64).toInt64)))])) _
    rw [show ((own_b3 (own_b2 (own_b1 q0))) + (((own_b3 (own_b2 (own_b1 q0))).toUInt64 >>> ((8 : Int32) &&& 0x3f).toInt64.toUInt64).toInt64)) = (own_b4 (own_b3 (own_b2 (own_b1 q0)))) from rfl]
    show Steps p.tables e below (s₁.setTop (mkF m 40 #[.val (.long (own_b3 (own_b2 (own_b1 q0)))), .second] [(.long (own_b4 (own_b3 (own_b2 (own_b1 q0)))))])) _
    refine XS.lstoreN X0.here hx rfl (hb hby d33_40) rfl (l' := #[.val (.long (own_b4 (own_b3 (own_b2 (own_b1 q0))))), .second]) rfl ?_
    refine XS.lloadN X0.here hx rfl (hb hby d33_41) rfl ?_
    refine XS.lloadN X0.here hx rfl (hb hby d33_42) rfl ?_
    refine XS.bipush X0.here hx rfl (hb hby d33_43) ?_
    refine XS.lushr X0.here hx rfl (hb hby d33_45) rfl ?_
    refine XS.ladd X0.here hx rfl (hb hby d33_46) rfl ?_
    show Steps p.tables e below (s₁.setTop (mkF m 47 #[.val (.long (own_b4 (own_b3 (own_b2 (own_b1 q0))))), .second] [(.long ((own_b4 (own_b3 (own_b2 (own_b1 q0)))) + (((own_b4 (own_b3 (own_b2 (own_b1 q0)))).toUInt64 >>> ((16 : Int32) &&& 0x3f).toInt64.toUInt64).toInt64)))])) _
    rw [show ((own_b4 (own_b3 (own_b2 (own_b1 q0)))) + (((own_b4 (own_b3 (own_b2 (own_b1 q0)))).toUInt64 >>> ((16 : Int32) &&& 0x3f).toInt64.toUInt64).toInt64)) = (own_b5 (own_b4 (own_b3 (own_b2 (own_b1 q0))))) from rfl]
    show Steps p.tables e below (s₁.setTop (mkF m 47 #[.val (.long (own_b4 (own_b3 (own_b2 (own_b1 q0))))), .second] [(.long (own_b5 (own_b4 (own_b3 (own_b2 (own_b1 q0))))))])) _
    refine XS.lstoreN X0.here hx rfl (hb hby d33_47) rfl (l' := #[.val (.long (own_b5 (own_b4 (own_b3 (own_b2 (own_b1 q0)))))), .second]) rfl ?_
    refine XS.lloadN X0.here hx rfl (hb hby d33_48) rfl ?_
    refine XS.lloadN X0.here hx rfl (hb hby d33_49) rfl ?_
    refine XS.bipush X0.here hx rfl (hb hby d33_50) ?_
    refine XS.lushr X0.here hx rfl (hb hby d33_52) rfl ?_
    refine XS.ladd X0.here hx rfl (hb hby d33_53) rfl ?_
    show Steps p.tables e below (s₁.setTop (mkF m 54 #[.val (.long (own_b5 (own_b4 (own_b3 (own_b2 (own_b1 q0)))))), .second] [(.long ((own_b5 (own_b4 (own_b3 (own_b2 (own_b1 q0))))) + (((own_b5 (own_b4 (own_b3 (own_b2 (own_b1 q0))))).toUInt64 >>> ((32 : Int32) &&& 0x3f).toInt64.toUInt64).toInt64)))])) _
    rw [show ((own_b5 (own_b4 (own_b3 (own_b2 (own_b1 q0))))) + (((own_b5 (own_b4 (own_b3 (own_b2 (own_b1 q0))))).toUInt64 >>> ((32 : Int32) &&& 0x3f).toInt64.toUInt64).toInt64)) = (own_b6 (own_b5 (own_b4 (own_b3 (own_b2 (own_b1 q0)))))) from rfl]
    show Steps p.tables e below (s₁.setTop (mkF m 54 #[.val (.long (own_b5 (own_b4 (own_b3 (own_b2 (own_b1 q0)))))), .second] [(.long (own_b6 (own_b5 (own_b4 (own_b3 (own_b2 (own_b1 q0)))))))])) _
    refine XS.lstoreN X0.here hx rfl (hb hby d33_54) rfl (l' := #[.val (.long (own_b6 (own_b5 (own_b4 (own_b3 (own_b2 (own_b1 q0))))))), .second]) rfl ?_
    refine XS.lloadN X0.here hx rfl (hb hby d33_55) rfl ?_
    refine XS.l2i X0.here hx rfl (hb hby d33_56) rfl ?_
    refine XS.bipush X0.here hx rfl (hb hby d33_57) ?_
    refine XS.iand X0.here hx rfl (hb hby d33_59) rfl ?_
    show Steps p.tables e below (s₁.setTop (mkF m 60 #[.val (.long (own_b6 (own_b5 (own_b4 (own_b3 (own_b2 (own_b1 q0))))))), .second] [(.int (((own_b6 (own_b5 (own_b4 (own_b3 (own_b2 (own_b1 q0)))))).toInt32) &&& (127 : Int32)))])) _
    rw [show (((own_b6 (own_b5 (own_b4 (own_b3 (own_b2 (own_b1 q0)))))).toInt32) &&& (127 : Int32)) = (own_bc q0) from rfl]
    exact kt
  obtain ⟨fs, hr, hrun, hended, hW, hsame⟩ := X0.leave (v := some (.int (own_bc q0))) (fun h => by rw [Bd.returns] at h; cases h)
  refine ⟨_, _, pre1 _ ?_, hrun, hended, _, _, rfl, ?_, ⟨_, rfl⟩, hW, hsame.mono (by decide) (by decide)⟩
  · show Steps p.tables e below (s₁.setTop (mkF m 60 #[.val (.long (own_b6 (own_b5 (own_b4 (own_b3 (own_b2 (own_b1 q0))))))), .second] [(.int (own_bc q0))])) _
    exact retI X0 hx Bd.returns (hb hby d33_60) hr
  · show Q33 Z q0 w h0 n0 _ s₁.heap _
    rw [e0]
    exact ⟨congrArg (fun z => some (Value.int z)) hv, N0, rfl⟩
theorem pn24 : plainName "com/example/subject/subject/model/Wildcards$Places" = true := by first | (simp [plainName, overriddenIn]; done) | decide +kernel
theorem d34_0 : decode prog_52_method_6_code 0 = .ok (.iconst 0, 1) := by decide +kernel
theorem d34_1 : decode prog_52_method_6_code 1 = .ok (.istore_n 2, 1) := by decide +kernel
theorem d34_2 : decode prog_52_method_6_code 2 = .ok (.iload_n 1, 1) := by decide +kernel
theorem d34_3 : decode prog_52_method_6_code 3 = .ok (.bipush 64, 2) := by decide +kernel
theorem d34_5 : decode prog_52_method_6_code 5 = .ok (.if_icmp .ge 35, 3) := by decide +kernel
theorem d34_8 : decode prog_52_method_6_code 8 = .ok (.aload_n 0, 1) := by decide +kernel
theorem d34_9 : decode prog_52_method_6_code 9 = .ok (.getfield 40, 3) := by decide +kernel
theorem d34_12 : decode prog_52_method_6_code 12 = .ok (.iload_n 1, 1) := by decide +kernel
theorem d34_13 : decode prog_52_method_6_code 13 = .ok (.lushr, 1) := by decide +kernel
theorem d34_14 : decode prog_52_method_6_code 14 = .ok (.lconst 1, 1) := by decide +kernel
theorem d34_15 : decode prog_52_method_6_code 15 = .ok (.land, 1) := by decide +kernel
theorem d34_16 : decode prog_52_method_6_code 16 = .ok (.lconst 0, 1) := by decide +kernel
theorem d34_17 : decode prog_52_method_6_code 17 = .ok (.lcmp, 1) := by decide +kernel
theorem d34_18 : decode prog_52_method_6_code 18 = .ok (.ifCond .eq 71, 3) := by decide +kernel
theorem d34_21 : decode prog_52_method_6_code 21 = .ok (.iconst 1, 1) := by decide +kernel
theorem d34_22 : decode prog_52_method_6_code 22 = .ok (.aload_n 0, 1) := by decide +kernel
theorem d34_23 : decode prog_52_method_6_code 23 = .ok (.getfield 40, 3) := by decide +kernel
theorem d34_26 : decode prog_52_method_6_code 26 = .ok (.lconst 1, 1) := by decide +kernel
theorem d34_27 : decode prog_52_method_6_code 27 = .ok (.iload_n 1, 1) := by decide +kernel
theorem d34_28 : decode prog_52_method_6_code 28 = .ok (.lshl, 1) := by decide +kernel
theorem d34_29 : decode prog_52_method_6_code 29 = .ok (.lconst 1, 1) := by decide +kernel
theorem d34_30 : decode prog_52_method_6_code 30 = .ok (.lsub, 1) := by decide +kernel
theorem d34_31 : decode prog_52_method_6_code 31 = .ok (.land, 1) := by decide +kernel
theorem pd25 : parseMethodDescriptor "(J)I" = some ⟨[.long], some .int⟩ := by decide +kernel
theorem d34_32 : decode prog_52_method_6_code 32 = .ok (.invokestatic 47, 3) := by decide +kernel
theorem d34_35 : decode prog_52_method_6_code 35 = .ok (.iadd, 1) := by decide +kernel
theorem d34_36 : decode prog_52_method_6_code 36 = .ok (.istore_n 2, 1) := by decide +kernel
theorem d34_37 : decode prog_52_method_6_code 37 = .ok (.goto 52, 3) := by decide +kernel
theorem d34_89 : decode prog_52_method_6_code 89 = .ok (.iload_n 2, 1) := by decide +kernel
theorem d34_90 : decode prog_52_method_6_code 90 = .ok (.ireturn, 1) := by decide +kernel
theorem ef_34L (m : MethodId) (x0 : Addr) (x1 : Int32) : entryFrame m #[(.ref x0), (.int x1)] 4 = mkF m 0 #[.val (.ref x0), .val (.int x1), .unset, .unset] [] := by first | (simp [entryFrame, mkF, argsToLocals, Value.category]; done) | rfl
def Q34L (Z : State) (r0 : Addr) (p1 : Int32) (h0 : Heap) (n0 : Nat) (v : Option Value) (h : Heap) (L : List Loc) : Prop := v = some (.int (1 : Int32)) ∧ Fr n0 L ∧ h = h0
set_option maxRecDepth 65536 in
set_option maxHeartbeats 40000000 in
theorem rm34L (l : Launch) (Z : State) (a0 : Array Value) (hw : ∀ d ∈ tables_1, d.before a0 Z = true) (ws : List Jvm.Cond) (r0 : Addr) (p1 : Int32) (h0 : Heap) (n0 : Nat) (Z0 : n0 ≤ h0.size) (F_heldLow_r0 : Fld Z h0 r0 "com/example/subject/subject/model/Wildcards$Places" "heldLow" "J" (.long (own_bit p1))) (F_heldHigh_r0 : Fld Z h0 r0 "com/example/subject/subject/model/Wildcards$Places" "heldHigh" "J" (.long (0 : Int64))) (E_r0 : Exa Z h0 r0 "com/example/subject/subject/model/Wildcards$Places") (hok_p1 : own_ok p1) (hg : p1 < (64 : Int32)) :
    MetFree l (⟨"com/example/subject/subject/model/Wildcards$Places", "slot", "(C)I"⟩ : MethodName) (head1 (Jvm.Cond.code (⟨"com/example/subject/subject/model/Wildcards$Places", "slot", "(C)I"⟩ : MethodName) prog_52_method_6_code 4 (some .int) :: ws) ({ frames := 1, cells := 0, slots := 0, locals := 14 } : Room)) (fun a U => a = #[(.ref r0), (.int p1)] ∧ Z.Warmed39 U.vm ∧ U.heap = h0) (fun _ _ _ _ _ => True) (fun _ U o U' => ∃ v L, o = .returned v ∧ Q34L Z r0 p1 h0 n0 v U'.heap L ∧ FrameEnd U o U' L ({ frames := 1, cells := 0, slots := 0, locals := 14 } : Room).cells ({ frames := 1, cells := 0, slots := 0, locals := 14 } : Room).slots) := by
  refine MetFree.of_bodySF (plainFor_of_name pn24) hisR ?_
  intro p e s m args below meth c s₁ Bd hml0 hP hK
  obtain ⟨rfl, hZ, hh⟩ := hP
  have hx := Bd.exec
  have hby := Bd.bytes
  have hml : c.maxLocals = 4 := hml0
  have hown : s.vm.findClass "com/example/subject/subject/model/Wildcards$Places" = some m.cls := findClass_of_methodNamed Bd.named
  have hnm := (name_of_methodNamed Bd.named Bd.method).1
  have X0 : Stand p l e ({ frames := 1, cells := 0, slots := 0, locals := 14 } : Room) s m #[(.ref r0), (.int p1)] below meth c s₁ [] 0 0 := Stand.of_body Bd
  have e0 : s₁.heap = h0 := by rw [← hh, Bd.state]; rfl
  have N0 := Fr.nil n0
  have pre0 : ∀ t, Steps p.tables e below (s₁.setTop (mkF m 0 #[rv r0, iv p1, .unset, .unset] [])) t → Steps p.tables e below (s₁.setTop (entryFrame m #[(.ref r0), (.int p1)] 4)) t := fun t k => castTop (ef_34L m r0 p1) k
  have pre2 : ∀ t, Steps p.tables e below (s₁.setTop (mkF m 5 #[rv r0, iv p1, iv (0 : Int32), .unset] [(.int (64 : Int32)), (.int p1)])) t → Steps p.tables e below (s₁.setTop (entryFrame m #[(.ref r0), (.int p1)] 4)) t := by
    intro t kt
    refine pre0 _ ?_
    show Steps p.tables e below (s₁.setTop (mkF m 0 #[rv r0, iv p1, .unset, .unset] [])) _
    refine XS.iconst X0.here hx rfl (hb hby d34_0) ?_
    refine XS.istoreN X0.here hx rfl (hb hby d34_1) rfl (l' := #[rv r0, iv p1, iv (0 : Int32), .unset]) rfl ?_
    refine XS.iloadN X0.here hx rfl (hb hby d34_2) rfl ?_
    refine XS.bipush X0.here hx rfl (hb hby d34_3) ?_
    exact kt
  have hc5_1 : p1 < (64 : Int32) := hg
  have pre3 : ∀ t, Steps p.tables e below (s₁.setTop (mkF m 9 #[rv r0, iv p1, iv (0 : Int32), .unset] [(.ref r0)])) t → Steps p.tables e below (s₁.setTop (entryFrame m #[(.ref r0), (.int p1)] 4)) t := by
    intro t kt
    refine pre2 _ ?_
    show Steps p.tables e below (s₁.setTop (mkF m 5 #[rv r0, iv p1, iv (0 : Int32), .unset] [(.int (64 : Int32)), (.int p1)])) _
    refine XS.icmpNo X0.here hx rfl (hb hby d34_5) rfl (tlt hc5_1).2.1 ?_
    refine XS.aloadN X0.here hx rfl (hb hby d34_8) rfl rfl ?_
    exact kt
  obtain ⟨T4, X4, e4, st4⟩ := getF X0 hx hZ hown (host := "") (Or.inl (hw _ (List.mem_of_getElem? (i := 160) rfl))) Via.refl e0 F_heldLow_r0 (g := (mkF m 9 #[rv r0, iv p1, iv (0 : Int32), .unset] [(.ref r0)])) rfl rfl (hb hby d34_9)
  have pre6 : ∀ t, Steps p.tables e below (T4.setTop (mkF m 18 #[rv r0, iv p1, iv (0 : Int32), .unset] [(.int (lcmpW ((((own_bit p1).toUInt64 >>> (p1 &&& 0x3f).toInt64.toUInt64).toInt64) &&& (1 : Int64)) (0 : Int64)))])) t → Steps p.tables e below (s₁.setTop (entryFrame m #[(.ref r0), (.int p1)] 4)) t := by
    intro t kt
    refine pre3 _ ?_
    show Steps p.tables e below (s₁.setTop (mkF m 9 #[rv r0, iv p1, iv (0 : Int32), .unset] [(.ref r0)])) _
    refine st4 _ ?_
    show Steps p.tables e below (T4.setTop (mkF m 12 #[rv r0, iv p1, iv (0 : Int32), .unset] [(.long (own_bit p1))])) _
    refine XS.iloadN X4.here hx rfl (hb hby d34_12) rfl ?_
    refine XS.lushr X4.here hx rfl (hb hby d34_13) rfl ?_
    refine XS.lconst X4.here hx rfl (hb hby d34_14) ?_
    refine XS.land X4.here hx rfl (hb hby d34_15) rfl ?_
    refine XS.lconst X4.here hx rfl (hb hby d34_16) ?_
    refine XS.lcmp X4.here hx rfl (hb hby d34_17) rfl ?_
    exact kt
  have hc18_5 : ¬ ((lcmpW ((((own_bit p1).toUInt64 >>> (p1 &&& 0x3f).toInt64.toUInt64).toInt64) &&& (1 : Int64)) (0 : Int64)) = (0 : Int32)) := (own_all (P := fun p1 => p1 < (64 : Int32) → ¬ ((lcmpW ((((own_bit p1).toUInt64 >>> (p1 &&& 0x3f).toInt64.toUInt64).toInt64) &&& (1 : Int64)) (0 : Int64)) = (0 : Int32))) (by decide +kernel) p1 hok_p1 hg)
  have pre7 : ∀ t, Steps p.tables e below (T4.setTop (mkF m 23 #[rv r0, iv p1, iv (0 : Int32), .unset] [(.ref r0), (.int (1 : Int32))])) t → Steps p.tables e below (s₁.setTop (entryFrame m #[(.ref r0), (.int p1)] 4)) t := by
    intro t kt
    refine pre6 _ ?_
    show Steps p.tables e below (T4.setTop (mkF m 18 #[rv r0, iv p1, iv (0 : Int32), .unset] [(.int (lcmpW ((((own_bit p1).toUInt64 >>> (p1 &&& 0x3f).toInt64.toUInt64).toInt64) &&& (1 : Int64)) (0 : Int64)))])) _
    refine XS.ifNo X4.here hx rfl (hb hby d34_18) rfl ((if0 _ _).trans (feq hc18_5).1) ?_
    refine XS.iconst X4.here hx rfl (hb hby d34_21) ?_
    refine XS.aloadN X4.here hx rfl (hb hby d34_22) rfl rfl ?_
    exact kt
  obtain ⟨T8, X8, e8, st8⟩ := getF X4 hx hZ hown (host := "") (Or.inl (hw _ (List.mem_of_getElem? (i := 160) rfl))) Via.refl e4 F_heldLow_r0 (g := (mkF m 23 #[rv r0, iv p1, iv (0 : Int32), .unset] [(.ref r0), (.int (1 : Int32))])) rfl rfl (hb hby d34_23)
  have pre9 : ∀ t, Steps p.tables e below (T8.setTop (mkF m 32 #[rv r0, iv p1, iv (0 : Int32), .unset] [(.long ((own_bit p1) &&& (((1 : Int64) <<< (p1 &&& 0x3f).toInt64) - (1 : Int64)))), (.int (1 : Int32))])) t → Steps p.tables e below (s₁.setTop (entryFrame m #[(.ref r0), (.int p1)] 4)) t := by
    intro t kt
    refine pre7 _ ?_
    show Steps p.tables e below (T4.setTop (mkF m 23 #[rv r0, iv p1, iv (0 : Int32), .unset] [(.ref r0), (.int (1 : Int32))])) _
    refine st8 _ ?_
    show Steps p.tables e below (T8.setTop (mkF m 26 #[rv r0, iv p1, iv (0 : Int32), .unset] [(.long (own_bit p1)), (.int (1 : Int32))])) _
    refine XS.lconst X8.here hx rfl (hb hby d34_26) ?_
    refine XS.iloadN X8.here hx rfl (hb hby d34_27) rfl ?_
    refine XS.lshl X8.here hx rfl (hb hby d34_28) rfl ?_
    refine XS.lconst X8.here hx rfl (hb hby d34_29) ?_
    refine XS.lsub X8.here hx rfl (hb hby d34_30) rfl ?_
    refine XS.land X8.here hx rfl (hb hby d34_31) rfl ?_
    exact kt
  obtain ⟨_, _, ⟨T10, L10, k10, n10⟩, -, X10, ⟨Lc10, hQ10, l10, y10, z10⟩, st10⟩ := Jvm.LawKit.callS X8 hx (y := (⟨"java/lang/Long", "bitCount", "(J)I"⟩ : MethodName)) hown (mvT hZ (hw _ (List.mem_of_getElem? (i := 164) rfl))) (mvT hZ (hw _ (List.mem_of_getElem? (i := 165) rfl))) (mvT hZ (hw _ (List.mem_of_getElem? (i := 166) rfl))) (mvT hZ (hw _ (List.mem_of_getElem? (i := 167) rfl))) (by decide) (backOf (W := 1) (rm33 l Z a0 hw [] ((own_bit p1) &&& (((1 : Int64) <<< (p1 &&& 0x3f).toInt64) - (1 : Int64))) (0 : Int32) h0 n0 (Nat.le_trans Z0 (Keep.refl h0 []).1) (own_all (P := fun p1 => p1 < (64 : Int32) → own_bc ((own_bit p1) &&& (((1 : Int64) <<< (p1 &&& 0x3f).toInt64) - (1 : Int64))) = (0 : Int32)) (by decide +kernel) p1 hok_p1 hg)) hZ (hw _ (List.mem_of_getElem? (i := 167) rfl)) (hw _ (List.mem_of_getElem? (i := 166) rfl)) (by decide) (by decide)) (g := (mkF m 32 #[rv r0, iv p1, iv (0 : Int32), .unset] [(.long ((own_bit p1) &&& (((1 : Int64) <<< (p1 &&& 0x3f).toInt64) - (1 : Int64)))), (.int (1 : Int32))])) rfl (by rw [hml]; rfl) (argsL := [(.long ((own_bit p1) &&& (((1 : Int64) <<< (p1 &&& 0x3f).toInt64) - (1 : Int64))))]) (rest := [(.int (1 : Int32))]) (lenOf pd25 rfl) rfl (by show 2 * 0 + _ ≤ _; exact Nat.le_of_eq rfl) (hb hby d34_32) (fun _ _ => ⟨rfl, e8, (by decide : 0 + 0 ≤ _), (by decide : 0 + 0 ≤ _)⟩)
  dsimp only [Pt.U, Pt.locs, Pt.cells, Pt.slots] at X10 l10 y10 z10 st10 hQ10
  subst l10 y10 z10
  obtain ⟨rfl, N10q, hh10⟩ := hQ10
  have N10 := Fr.app N0 N10q
  have pre11 : ∀ t, Steps p.tables e below (T10.setTop (mkF m 90 #[rv r0, iv p1, iv (1 : Int32), .unset] [(.int (1 : Int32))])) t → Steps p.tables e below (s₁.setTop (entryFrame m #[(.ref r0), (.int p1)] 4)) t := by
    intro t kt
    refine pre9 _ ?_
    show Steps p.tables e below (T8.setTop (mkF m 32 #[rv r0, iv p1, iv (0 : Int32), .unset] [(.long ((own_bit p1) &&& (((1 : Int64) <<< (p1 &&& 0x3f).toInt64) - (1 : Int64)))), (.int (1 : Int32))])) _
    refine st10 _ ?_
    show Steps p.tables e below (T10.setTop (mkF m 35 #[rv r0, iv p1, iv (0 : Int32), .unset] [(.int (0 : Int32)), (.int (1 : Int32))])) _
    refine XS.iadd X10.here hx rfl (hb hby d34_35) rfl ?_
    show Steps p.tables e below (T10.setTop (mkF m 36 #[rv r0, iv p1, iv (0 : Int32), .unset] [(.int ((1 : Int32) + (0 : Int32)))])) _
    rw [show ((1 : Int32) + (0 : Int32)) = (1 : Int32) from (by decide)]
    show Steps p.tables e below (T10.setTop (mkF m 36 #[rv r0, iv p1, iv (0 : Int32), .unset] [(.int (1 : Int32))])) _
    refine XS.istoreN X10.here hx rfl (hb hby d34_36) rfl (l' := #[rv r0, iv p1, iv (1 : Int32), .unset]) rfl ?_
    refine XS.goto X10.here hx rfl (pc0 := 37) (pc' := 89) rfl (hb hby d34_37) (by decide) (by decide) ?_
    refine XS.iloadN X10.here hx rfl (hb hby d34_89) rfl ?_
    exact kt
  obtain ⟨fs, hr, hrun, hended, hW, hsame⟩ := X10.leave (v := some (.int (1 : Int32))) (fun h => by rw [Bd.returns] at h; cases h)
  refine ⟨_, _, pre11 _ ?_, hrun, hended, _, _, rfl, ?_, ⟨_, rfl⟩, hW, hsame.mono (by decide) (by decide)⟩
  · show Steps p.tables e below (T10.setTop (mkF m 90 #[rv r0, iv p1, iv (1 : Int32), .unset] [(.int (1 : Int32))])) _
    exact retI X10 hx Bd.returns (hb hby d34_90) hr
  · show Q34L Z r0 p1 h0 n0 _ T10.heap _
    rw [hh10]
    exact ⟨rfl, N10, rfl⟩
theorem d34_40 : decode prog_52_method_6_code 40 = .ok (.iload_n 1, 1) := by decide +kernel
theorem d34_41 : decode prog_52_method_6_code 41 = .ok (.sipush 128, 3) := by decide +kernel
theorem d34_44 : decode prog_52_method_6_code 44 = .ok (.if_icmp .ge 45, 3) := by decide +kernel
theorem d34_47 : decode prog_52_method_6_code 47 = .ok (.iload_n 1, 1) := by decide +kernel
theorem d34_48 : decode prog_52_method_6_code 48 = .ok (.bipush 64, 2) := by decide +kernel
theorem d34_50 : decode prog_52_method_6_code 50 = .ok (.isub, 1) := by decide +kernel
theorem d34_51 : decode prog_52_method_6_code 51 = .ok (.istore_n 3, 1) := by decide +kernel
theorem d34_52 : decode prog_52_method_6_code 52 = .ok (.aload_n 0, 1) := by decide +kernel
theorem d34_53 : decode prog_52_method_6_code 53 = .ok (.getfield 44, 3) := by decide +kernel
theorem d34_56 : decode prog_52_method_6_code 56 = .ok (.iload_n 3, 1) := by decide +kernel
theorem d34_57 : decode prog_52_method_6_code 57 = .ok (.lushr, 1) := by decide +kernel
theorem d34_58 : decode prog_52_method_6_code 58 = .ok (.lconst 1, 1) := by decide +kernel
theorem d34_59 : decode prog_52_method_6_code 59 = .ok (.land, 1) := by decide +kernel
theorem d34_60 : decode prog_52_method_6_code 60 = .ok (.lconst 0, 1) := by decide +kernel
theorem d34_61 : decode prog_52_method_6_code 61 = .ok (.lcmp, 1) := by decide +kernel
theorem d34_62 : decode prog_52_method_6_code 62 = .ok (.ifCond .eq 27, 3) := by decide +kernel
theorem d34_65 : decode prog_52_method_6_code 65 = .ok (.iconst 1, 1) := by decide +kernel
theorem d34_66 : decode prog_52_method_6_code 66 = .ok (.aload_n 0, 1) := by decide +kernel
theorem d34_67 : decode prog_52_method_6_code 67 = .ok (.getfield 40, 3) := by decide +kernel
theorem d34_70 : decode prog_52_method_6_code 70 = .ok (.invokestatic 47, 3) := by decide +kernel
theorem d34_73 : decode prog_52_method_6_code 73 = .ok (.iadd, 1) := by decide +kernel
theorem d34_74 : decode prog_52_method_6_code 74 = .ok (.aload_n 0, 1) := by decide +kernel
theorem d34_75 : decode prog_52_method_6_code 75 = .ok (.getfield 44, 3) := by decide +kernel
theorem d34_78 : decode prog_52_method_6_code 78 = .ok (.lconst 1, 1) := by decide +kernel
theorem d34_79 : decode prog_52_method_6_code 79 = .ok (.iload_n 3, 1) := by decide +kernel
theorem d34_80 : decode prog_52_method_6_code 80 = .ok (.lshl, 1) := by decide +kernel
theorem d34_81 : decode prog_52_method_6_code 81 = .ok (.lconst 1, 1) := by decide +kernel
theorem d34_82 : decode prog_52_method_6_code 82 = .ok (.lsub, 1) := by decide +kernel
theorem d34_83 : decode prog_52_method_6_code 83 = .ok (.land, 1) := by decide +kernel
theorem d34_84 : decode prog_52_method_6_code 84 = .ok (.invokestatic 47, 3) := by decide +kernel
theorem d34_87 : decode prog_52_method_6_code 87 = .ok (.iadd, 1) := by decide +kernel
theorem d34_88 : decode prog_52_method_6_code 88 = .ok (.istore_n 2, 1) := by decide +kernel
theorem ef_34H (m : MethodId) (x0 : Addr) (x1 : Int32) : entryFrame m #[(.ref x0), (.int x1)] 4 = mkF m 0 #[.val (.ref x0), .val (.int x1), .unset, .unset] [] := by first | (simp [entryFrame, mkF, argsToLocals, Value.category]; done) | rfl
def Q34H (Z : State) (r0 : Addr) (p1 : Int32) (h0 : Heap) (n0 : Nat) (v : Option Value) (h : Heap) (L : List Loc) : Prop := v = some (.int (1 : Int32)) ∧ Fr n0 L ∧ h = h0
set_option maxRecDepth 65536 in
set_option maxHeartbeats 40000000 in
theorem rm34H (l : Launch) (Z : State) (a0 : Array Value) (hw : ∀ d ∈ tables_1, d.before a0 Z = true) (ws : List Jvm.Cond) (r0 : Addr) (p1 : Int32) (h0 : Heap) (n0 : Nat) (Z0 : n0 ≤ h0.size) (F_heldLow_r0 : Fld Z h0 r0 "com/example/subject/subject/model/Wildcards$Places" "heldLow" "J" (.long (0 : Int64))) (F_heldHigh_r0 : Fld Z h0 r0 "com/example/subject/subject/model/Wildcards$Places" "heldHigh" "J" (.long (own_bit (p1 - (64 : Int32))))) (E_r0 : Exa Z h0 r0 "com/example/subject/subject/model/Wildcards$Places") (hok_p1 : own_ok p1) (hg : ¬ (p1 < (64 : Int32))) :
    MetFree l (⟨"com/example/subject/subject/model/Wildcards$Places", "slot", "(C)I"⟩ : MethodName) (head1 (Jvm.Cond.code (⟨"com/example/subject/subject/model/Wildcards$Places", "slot", "(C)I"⟩ : MethodName) prog_52_method_6_code 4 (some .int) :: ws) ({ frames := 1, cells := 0, slots := 0, locals := 14 } : Room)) (fun a U => a = #[(.ref r0), (.int p1)] ∧ Z.Warmed39 U.vm ∧ U.heap = h0) (fun _ _ _ _ _ => True) (fun _ U o U' => ∃ v L, o = .returned v ∧ Q34H Z r0 p1 h0 n0 v U'.heap L ∧ FrameEnd U o U' L ({ frames := 1, cells := 0, slots := 0, locals := 14 } : Room).cells ({ frames := 1, cells := 0, slots := 0, locals := 14 } : Room).slots) := by
  refine MetFree.of_bodySF (plainFor_of_name pn24) hisR ?_
  intro p e s m args below meth c s₁ Bd hml0 hP hK
  obtain ⟨rfl, hZ, hh⟩ := hP
  have hx := Bd.exec
  have hby := Bd.bytes
  have hml : c.maxLocals = 4 := hml0
  have hown : s.vm.findClass "com/example/subject/subject/model/Wildcards$Places" = some m.cls := findClass_of_methodNamed Bd.named
  have hnm := (name_of_methodNamed Bd.named Bd.method).1
  have X0 : Stand p l e ({ frames := 1, cells := 0, slots := 0, locals := 14 } : Room) s m #[(.ref r0), (.int p1)] below meth c s₁ [] 0 0 := Stand.of_body Bd
  have e0 : s₁.heap = h0 := by rw [← hh, Bd.state]; rfl
  have N0 := Fr.nil n0
  have pre0 : ∀ t, Steps p.tables e below (s₁.setTop (mkF m 0 #[rv r0, iv p1, .unset, .unset] [])) t → Steps p.tables e below (s₁.setTop (entryFrame m #[(.ref r0), (.int p1)] 4)) t := fun t k => castTop (ef_34H m r0 p1) k
  have pre2 : ∀ t, Steps p.tables e below (s₁.setTop (mkF m 5 #[rv r0, iv p1, iv (0 : Int32), .unset] [(.int (64 : Int32)), (.int p1)])) t → Steps p.tables e below (s₁.setTop (entryFrame m #[(.ref r0), (.int p1)] 4)) t := by
    intro t kt
    refine pre0 _ ?_
    show Steps p.tables e below (s₁.setTop (mkF m 0 #[rv r0, iv p1, .unset, .unset] [])) _
    refine XS.iconst X0.here hx rfl (hb hby d34_0) ?_
    refine XS.istoreN X0.here hx rfl (hb hby d34_1) rfl (l' := #[rv r0, iv p1, iv (0 : Int32), .unset]) rfl ?_
    refine XS.iloadN X0.here hx rfl (hb hby d34_2) rfl ?_
    refine XS.bipush X0.here hx rfl (hb hby d34_3) ?_
    exact kt
  have hc5_1 : ¬ (p1 < (64 : Int32)) := hg
  have pre4 : ∀ t, Steps p.tables e below (s₁.setTop (mkF m 44 #[rv r0, iv p1, iv (0 : Int32), .unset] [(.int (128 : Int32)), (.int p1)])) t → Steps p.tables e below (s₁.setTop (entryFrame m #[(.ref r0), (.int p1)] 4)) t := by
    intro t kt
    refine pre2 _ ?_
    show Steps p.tables e below (s₁.setTop (mkF m 5 #[rv r0, iv p1, iv (0 : Int32), .unset] [(.int (64 : Int32)), (.int p1)])) _
    refine XS.icmpYes X0.here hx rfl (pc0 := 5) (pc' := 40) rfl (hb hby d34_5) rfl (flt hc5_1).2.1 (by decide) (by decide) ?_
    refine XS.iloadN X0.here hx rfl (hb hby d34_40) rfl ?_
    refine XS.sipush X0.here hx rfl (hb hby d34_41) ?_
    exact kt
  have hc44_3 : p1 < (128 : Int32) := hok_p1.2
  have pre5 : ∀ t, Steps p.tables e below (s₁.setTop (mkF m 53 #[rv r0, iv p1, iv (0 : Int32), iv (p1 - (64 : Int32))] [(.ref r0)])) t → Steps p.tables e below (s₁.setTop (entryFrame m #[(.ref r0), (.int p1)] 4)) t := by
    intro t kt
    refine pre4 _ ?_
    show Steps p.tables e below (s₁.setTop (mkF m 44 #[rv r0, iv p1, iv (0 : Int32), .unset] [(.int (128 : Int32)), (.int p1)])) _
    refine XS.icmpNo X0.here hx rfl (hb hby d34_44) rfl (tlt hc44_3).2.1 ?_
    refine XS.iloadN X0.here hx rfl (hb hby d34_47) rfl ?_
    refine XS.bipush X0.here hx rfl (hb hby d34_48) ?_
    refine XS.isub X0.here hx rfl (hb hby d34_50) rfl ?_
    refine XS.istoreN X0.here hx rfl (hb hby d34_51) rfl (l' := #[rv r0, iv p1, iv (0 : Int32), iv (p1 - (64 : Int32))]) rfl ?_
    refine XS.aloadN X0.here hx rfl (hb hby d34_52) rfl rfl ?_
    exact kt
  obtain ⟨T6, X6, e6, st6⟩ := getF X0 hx hZ hown (host := "") (Or.inl (hw _ (List.mem_of_getElem? (i := 162) rfl))) Via.refl e0 F_heldHigh_r0 (g := (mkF m 53 #[rv r0, iv p1, iv (0 : Int32), iv (p1 - (64 : Int32))] [(.ref r0)])) rfl rfl (hb hby d34_53)
  have pre8 : ∀ t, Steps p.tables e below (T6.setTop (mkF m 62 #[rv r0, iv p1, iv (0 : Int32), iv (p1 - (64 : Int32))] [(.int (lcmpW ((((own_bit (p1 - (64 : Int32))).toUInt64 >>> ((p1 - (64 : Int32)) &&& 0x3f).toInt64.toUInt64).toInt64) &&& (1 : Int64)) (0 : Int64)))])) t → Steps p.tables e below (s₁.setTop (entryFrame m #[(.ref r0), (.int p1)] 4)) t := by
    intro t kt
    refine pre5 _ ?_
    show Steps p.tables e below (s₁.setTop (mkF m 53 #[rv r0, iv p1, iv (0 : Int32), iv (p1 - (64 : Int32))] [(.ref r0)])) _
    refine st6 _ ?_
    show Steps p.tables e below (T6.setTop (mkF m 56 #[rv r0, iv p1, iv (0 : Int32), iv (p1 - (64 : Int32))] [(.long (own_bit (p1 - (64 : Int32))))])) _
    refine XS.iloadN X6.here hx rfl (hb hby d34_56) rfl ?_
    refine XS.lushr X6.here hx rfl (hb hby d34_57) rfl ?_
    refine XS.lconst X6.here hx rfl (hb hby d34_58) ?_
    refine XS.land X6.here hx rfl (hb hby d34_59) rfl ?_
    refine XS.lconst X6.here hx rfl (hb hby d34_60) ?_
    refine XS.lcmp X6.here hx rfl (hb hby d34_61) rfl ?_
    exact kt
  have hc62_7 : ¬ ((lcmpW ((((own_bit (p1 - (64 : Int32))).toUInt64 >>> ((p1 - (64 : Int32)) &&& 0x3f).toInt64.toUInt64).toInt64) &&& (1 : Int64)) (0 : Int64)) = (0 : Int32)) := (own_all (P := fun p1 => ¬ (p1 < (64 : Int32)) → ¬ ((lcmpW ((((own_bit (p1 - (64 : Int32))).toUInt64 >>> ((p1 - (64 : Int32)) &&& 0x3f).toInt64.toUInt64).toInt64) &&& (1 : Int64)) (0 : Int64)) = (0 : Int32))) (by decide +kernel) p1 hok_p1 hg)
  have pre9 : ∀ t, Steps p.tables e below (T6.setTop (mkF m 67 #[rv r0, iv p1, iv (0 : Int32), iv (p1 - (64 : Int32))] [(.ref r0), (.int (1 : Int32))])) t → Steps p.tables e below (s₁.setTop (entryFrame m #[(.ref r0), (.int p1)] 4)) t := by
    intro t kt
    refine pre8 _ ?_
    show Steps p.tables e below (T6.setTop (mkF m 62 #[rv r0, iv p1, iv (0 : Int32), iv (p1 - (64 : Int32))] [(.int (lcmpW ((((own_bit (p1 - (64 : Int32))).toUInt64 >>> ((p1 - (64 : Int32)) &&& 0x3f).toInt64.toUInt64).toInt64) &&& (1 : Int64)) (0 : Int64)))])) _
    refine XS.ifNo X6.here hx rfl (hb hby d34_62) rfl ((if0 _ _).trans (feq hc62_7).1) ?_
    refine XS.iconst X6.here hx rfl (hb hby d34_65) ?_
    refine XS.aloadN X6.here hx rfl (hb hby d34_66) rfl rfl ?_
    exact kt
  obtain ⟨T10, X10, e10, st10⟩ := getF X6 hx hZ hown (host := "") (Or.inl (hw _ (List.mem_of_getElem? (i := 160) rfl))) Via.refl e6 F_heldLow_r0 (g := (mkF m 67 #[rv r0, iv p1, iv (0 : Int32), iv (p1 - (64 : Int32))] [(.ref r0), (.int (1 : Int32))])) rfl rfl (hb hby d34_67)
  have pre11 : ∀ t, Steps p.tables e below (T10.setTop (mkF m 70 #[rv r0, iv p1, iv (0 : Int32), iv (p1 - (64 : Int32))] [(.long (0 : Int64)), (.int (1 : Int32))])) t → Steps p.tables e below (s₁.setTop (entryFrame m #[(.ref r0), (.int p1)] 4)) t := by
    intro t kt
    refine pre9 _ ?_
    show Steps p.tables e below (T6.setTop (mkF m 67 #[rv r0, iv p1, iv (0 : Int32), iv (p1 - (64 : Int32))] [(.ref r0), (.int (1 : Int32))])) _
    refine st10 _ ?_
    exact kt
  obtain ⟨_, _, ⟨T12, L12, k12, n12⟩, -, X12, ⟨Lc12, hQ12, l12, y12, z12⟩, st12⟩ := Jvm.LawKit.callS X10 hx (y := (⟨"java/lang/Long", "bitCount", "(J)I"⟩ : MethodName)) hown (mvT hZ (hw _ (List.mem_of_getElem? (i := 164) rfl))) (mvT hZ (hw _ (List.mem_of_getElem? (i := 165) rfl))) (mvT hZ (hw _ (List.mem_of_getElem? (i := 166) rfl))) (mvT hZ (hw _ (List.mem_of_getElem? (i := 167) rfl))) (by decide) (backOf (W := 1) (rm33 l Z a0 hw [] (0 : Int64) (0 : Int32) h0 n0 (Nat.le_trans Z0 (Keep.refl h0 []).1) (by decide +kernel)) hZ (hw _ (List.mem_of_getElem? (i := 167) rfl)) (hw _ (List.mem_of_getElem? (i := 166) rfl)) (by decide) (by decide)) (g := (mkF m 70 #[rv r0, iv p1, iv (0 : Int32), iv (p1 - (64 : Int32))] [(.long (0 : Int64)), (.int (1 : Int32))])) rfl (by rw [hml]; rfl) (argsL := [(.long (0 : Int64))]) (rest := [(.int (1 : Int32))]) (lenOf pd25 rfl) rfl (by show 2 * 0 + _ ≤ _; exact Nat.le_of_eq rfl) (hb hby d34_70) (fun _ _ => ⟨rfl, e10, (by decide : 0 + 0 ≤ _), (by decide : 0 + 0 ≤ _)⟩)
  dsimp only [Pt.U, Pt.locs, Pt.cells, Pt.slots] at X12 l12 y12 z12 st12 hQ12
  subst l12 y12 z12
  obtain ⟨rfl, N12q, hh12⟩ := hQ12
  have N12 := Fr.app N0 N12q
  have pre13 : ∀ t, Steps p.tables e below (T12.setTop (mkF m 75 #[rv r0, iv p1, iv (0 : Int32), iv (p1 - (64 : Int32))] [(.ref r0), (.int (1 : Int32))])) t → Steps p.tables e below (s₁.setTop (entryFrame m #[(.ref r0), (.int p1)] 4)) t := by
    intro t kt
    refine pre11 _ ?_
    show Steps p.tables e below (T10.setTop (mkF m 70 #[rv r0, iv p1, iv (0 : Int32), iv (p1 - (64 : Int32))] [(.long (0 : Int64)), (.int (1 : Int32))])) _
    refine st12 _ ?_
    show Steps p.tables e below (T12.setTop (mkF m 73 #[rv r0, iv p1, iv (0 : Int32), iv (p1 - (64 : Int32))] [(.int (0 : Int32)), (.int (1 : Int32))])) _
    refine XS.iadd X12.here hx rfl (hb hby d34_73) rfl ?_
    show Steps p.tables e below (T12.setTop (mkF m 74 #[rv r0, iv p1, iv (0 : Int32), iv (p1 - (64 : Int32))] [(.int ((1 : Int32) + (0 : Int32)))])) _
    rw [show ((1 : Int32) + (0 : Int32)) = (1 : Int32) from (by decide)]
    show Steps p.tables e below (T12.setTop (mkF m 74 #[rv r0, iv p1, iv (0 : Int32), iv (p1 - (64 : Int32))] [(.int (1 : Int32))])) _
    refine XS.aloadN X12.here hx rfl (hb hby d34_74) rfl rfl ?_
    exact kt
  obtain ⟨T14, X14, e14, st14⟩ := getF X12 hx hZ hown (host := "") (Or.inl (hw _ (List.mem_of_getElem? (i := 162) rfl))) Via.refl hh12 F_heldHigh_r0 (g := (mkF m 75 #[rv r0, iv p1, iv (0 : Int32), iv (p1 - (64 : Int32))] [(.ref r0), (.int (1 : Int32))])) rfl rfl (hb hby d34_75)
  have pre15 : ∀ t, Steps p.tables e below (T14.setTop (mkF m 84 #[rv r0, iv p1, iv (0 : Int32), iv (p1 - (64 : Int32))] [(.long ((own_bit (p1 - (64 : Int32))) &&& (((1 : Int64) <<< ((p1 - (64 : Int32)) &&& 0x3f).toInt64) - (1 : Int64)))), (.int (1 : Int32))])) t → Steps p.tables e below (s₁.setTop (entryFrame m #[(.ref r0), (.int p1)] 4)) t := by
    intro t kt
    refine pre13 _ ?_
    show Steps p.tables e below (T12.setTop (mkF m 75 #[rv r0, iv p1, iv (0 : Int32), iv (p1 - (64 : Int32))] [(.ref r0), (.int (1 : Int32))])) _
    refine st14 _ ?_
    show Steps p.tables e below (T14.setTop (mkF m 78 #[rv r0, iv p1, iv (0 : Int32), iv (p1 - (64 : Int32))] [(.long (own_bit (p1 - (64 : Int32)))), (.int (1 : Int32))])) _
    refine XS.lconst X14.here hx rfl (hb hby d34_78) ?_
    refine XS.iloadN X14.here hx rfl (hb hby d34_79) rfl ?_
    refine XS.lshl X14.here hx rfl (hb hby d34_80) rfl ?_
    refine XS.lconst X14.here hx rfl (hb hby d34_81) ?_
    refine XS.lsub X14.here hx rfl (hb hby d34_82) rfl ?_
    refine XS.land X14.here hx rfl (hb hby d34_83) rfl ?_
    exact kt
  obtain ⟨_, _, ⟨T16, L16, k16, n16⟩, -, X16, ⟨Lc16, hQ16, l16, y16, z16⟩, st16⟩ := Jvm.LawKit.callS X14 hx (y := (⟨"java/lang/Long", "bitCount", "(J)I"⟩ : MethodName)) hown (mvT hZ (hw _ (List.mem_of_getElem? (i := 164) rfl))) (mvT hZ (hw _ (List.mem_of_getElem? (i := 165) rfl))) (mvT hZ (hw _ (List.mem_of_getElem? (i := 166) rfl))) (mvT hZ (hw _ (List.mem_of_getElem? (i := 167) rfl))) (by decide) (backOf (W := 1) (rm33 l Z a0 hw [] ((own_bit (p1 - (64 : Int32))) &&& (((1 : Int64) <<< ((p1 - (64 : Int32)) &&& 0x3f).toInt64) - (1 : Int64))) (0 : Int32) h0 n0 (Nat.le_trans Z0 (Keep.refl h0 []).1) (own_all (P := fun p1 => ¬ (p1 < (64 : Int32)) → own_bc ((own_bit (p1 - (64 : Int32))) &&& (((1 : Int64) <<< ((p1 - (64 : Int32)) &&& 0x3f).toInt64) - (1 : Int64))) = (0 : Int32)) (by decide +kernel) p1 hok_p1 hg)) hZ (hw _ (List.mem_of_getElem? (i := 167) rfl)) (hw _ (List.mem_of_getElem? (i := 166) rfl)) (by decide) (by decide)) (g := (mkF m 84 #[rv r0, iv p1, iv (0 : Int32), iv (p1 - (64 : Int32))] [(.long ((own_bit (p1 - (64 : Int32))) &&& (((1 : Int64) <<< ((p1 - (64 : Int32)) &&& 0x3f).toInt64) - (1 : Int64)))), (.int (1 : Int32))])) rfl (by rw [hml]; rfl) (argsL := [(.long ((own_bit (p1 - (64 : Int32))) &&& (((1 : Int64) <<< ((p1 - (64 : Int32)) &&& 0x3f).toInt64) - (1 : Int64))))]) (rest := [(.int (1 : Int32))]) (lenOf pd25 rfl) rfl (by show 2 * 0 + _ ≤ _; exact Nat.le_of_eq rfl) (hb hby d34_84) (fun _ _ => ⟨rfl, e14, (by decide : 0 + 0 ≤ _), (by decide : 0 + 0 ≤ _)⟩)
  dsimp only [Pt.U, Pt.locs, Pt.cells, Pt.slots] at X16 l16 y16 z16 st16 hQ16
  subst l16 y16 z16
  obtain ⟨rfl, N16q, hh16⟩ := hQ16
  have N16 := Fr.app N12 N16q
  have pre17 : ∀ t, Steps p.tables e below (T16.setTop (mkF m 90 #[rv r0, iv p1, iv (1 : Int32), iv (p1 - (64 : Int32))] [(.int (1 : Int32))])) t → Steps p.tables e below (s₁.setTop (entryFrame m #[(.ref r0), (.int p1)] 4)) t := by
    intro t kt
    refine pre15 _ ?_
    show Steps p.tables e below (T14.setTop (mkF m 84 #[rv r0, iv p1, iv (0 : Int32), iv (p1 - (64 : Int32))] [(.long ((own_bit (p1 - (64 : Int32))) &&& (((1 : Int64) <<< ((p1 - (64 : Int32)) &&& 0x3f).toInt64) - (1 : Int64)))), (.int (1 : Int32))])) _
    refine st16 _ ?_
    show Steps p.tables e below (T16.setTop (mkF m 87 #[rv r0, iv p1, iv (0 : Int32), iv (p1 - (64 : Int32))] [(.int (0 : Int32)), (.int (1 : Int32))])) _
    refine XS.iadd X16.here hx rfl (hb hby d34_87) rfl ?_
    show Steps p.tables e below (T16.setTop (mkF m 88 #[rv r0, iv p1, iv (0 : Int32), iv (p1 - (64 : Int32))] [(.int ((1 : Int32) + (0 : Int32)))])) _
    rw [show ((1 : Int32) + (0 : Int32)) = (1 : Int32) from (by decide)]
    show Steps p.tables e below (T16.setTop (mkF m 88 #[rv r0, iv p1, iv (0 : Int32), iv (p1 - (64 : Int32))] [(.int (1 : Int32))])) _
    refine XS.istoreN X16.here hx rfl (hb hby d34_88) rfl (l' := #[rv r0, iv p1, iv (1 : Int32), iv (p1 - (64 : Int32))]) rfl ?_
    refine XS.iloadN X16.here hx rfl (hb hby d34_89) rfl ?_
    exact kt
  obtain ⟨fs, hr, hrun, hended, hW, hsame⟩ := X16.leave (v := some (.int (1 : Int32))) (fun h => by rw [Bd.returns] at h; cases h)
  refine ⟨_, _, pre17 _ ?_, hrun, hended, _, _, rfl, ?_, ⟨_, rfl⟩, hW, hsame.mono (by decide) (by decide)⟩
  · show Steps p.tables e below (T16.setTop (mkF m 90 #[rv r0, iv p1, iv (1 : Int32), iv (p1 - (64 : Int32))] [(.int (1 : Int32))])) _
    exact retI X16 hx Bd.returns (hb hby d34_90) hr
  · show Q34H Z r0 p1 h0 n0 _ T16.heap _
    rw [hh16]
    exact ⟨rfl, N16, rfl⟩
theorem d28_0 : decode prog_52_method_1_code 0 = .ok (.aload_n 0, 1) := by decide +kernel
theorem d28_1 : decode prog_52_method_1_code 1 = .ok (.invokespecial 3, 3) := by decide +kernel
theorem d28_4 : decode prog_52_method_1_code 4 = .ok (.aload_n 0, 1) := by decide +kernel
theorem d28_5 : decode prog_52_method_1_code 5 = .ok (.aload_n 1, 1) := by decide +kernel
theorem d28_6 : decode prog_52_method_1_code 6 = .ok (.invokevirtual 9, 3) := by decide +kernel
theorem d28_9 : decode prog_52_method_1_code 9 = .ok (.iconst 1, 1) := by decide +kernel
theorem d28_10 : decode prog_52_method_1_code 10 = .ok (.iadd, 1) := by decide +kernel
theorem d28_11 : decode prog_52_method_1_code 11 = .ok (.bipush 64, 2) := by decide +kernel
theorem d28_13 : decode prog_52_method_1_code 13 = .ok (.iadd, 1) := by decide +kernel
theorem d28_14 : decode prog_52_method_1_code 14 = .ok (.iconst 1, 1) := by decide +kernel
theorem d28_15 : decode prog_52_method_1_code 15 = .ok (.isub, 1) := by decide +kernel
theorem d28_16 : decode prog_52_method_1_code 16 = .ok (.bipush 64, 2) := by decide +kernel
theorem d28_18 : decode prog_52_method_1_code 18 = .ok (.idiv, 1) := by decide +kernel
theorem d28_19 : decode prog_52_method_1_code 19 = .ok (.putfield 17, 3) := by decide +kernel
theorem d28_22 : decode prog_52_method_1_code 22 = .ok (.aload_n 0, 1) := by decide +kernel
theorem d28_23 : decode prog_52_method_1_code 23 = .ok (.aload_n 0, 1) := by decide +kernel
theorem d28_24 : decode prog_52_method_1_code 24 = .ok (.getfield 17, 3) := by decide +kernel
theorem d28_27 : decode prog_52_method_1_code 27 = .ok (.newarray .long, 2) := by decide +kernel
theorem d28_29 : decode prog_52_method_1_code 29 = .ok (.putfield 23, 3) := by decide +kernel
theorem d28_32 : decode prog_52_method_1_code 32 = .ok (.aload_n 0, 1) := by decide +kernel
theorem d28_33 : decode prog_52_method_1_code 33 = .ok (.getfield 17, 3) := by decide +kernel
theorem d28_36 : decode prog_52_method_1_code 36 = .ok (.newarray .long, 2) := by decide +kernel
theorem d28_38 : decode prog_52_method_1_code 38 = .ok (.astore_n 2, 1) := by decide +kernel
theorem d28_39 : decode prog_52_method_1_code 39 = .ok (.lconst 0, 1) := by decide +kernel
theorem d28_40 : decode prog_52_method_1_code 40 = .ok (.lstore_n 3, 1) := by decide +kernel
theorem d28_41 : decode prog_52_method_1_code 41 = .ok (.lconst 0, 1) := by decide +kernel
theorem d28_42 : decode prog_52_method_1_code 42 = .ok (.lstore 5, 2) := by decide +kernel
theorem d28_44 : decode prog_52_method_1_code 44 = .ok (.iconst 0, 1) := by decide +kernel
theorem d28_45 : decode prog_52_method_1_code 45 = .ok (.istore 7, 2) := by decide +kernel
theorem d28_47 : decode prog_52_method_1_code 47 = .ok (.iload 7, 2) := by decide +kernel
theorem d28_49 : decode prog_52_method_1_code 49 = .ok (.aload_n 1, 1) := by decide +kernel
theorem d28_50 : decode prog_52_method_1_code 50 = .ok (.invokevirtual 9, 3) := by decide +kernel
theorem d28_53 : decode prog_52_method_1_code 53 = .ok (.if_icmp .ge 128, 3) := by decide +kernel
theorem d28_56 : decode prog_52_method_1_code 56 = .ok (.aload_n 1, 1) := by decide +kernel
theorem d28_57 : decode prog_52_method_1_code 57 = .ok (.iload 7, 2) := by decide +kernel
theorem pd26 : parseMethodDescriptor "(I)C" = some ⟨[.int], some .char⟩ := by decide +kernel
theorem d28_59 : decode prog_52_method_1_code 59 = .ok (.invokevirtual 27, 3) := by decide +kernel
theorem d28_62 : decode prog_52_method_1_code 62 = .ok (.istore 8, 2) := by decide +kernel
theorem d28_64 : decode prog_52_method_1_code 64 = .ok (.iload 8, 2) := by decide +kernel
theorem d28_66 : decode prog_52_method_1_code 66 = .ok (.bipush 42, 2) := by decide +kernel
theorem d28_68 : decode prog_52_method_1_code 68 = .ok (.if_icmp .ne 26, 3) := by decide +kernel
theorem d28_71 : decode prog_52_method_1_code 71 = .ok (.aload_n 0, 1) := by decide +kernel
theorem d28_72 : decode prog_52_method_1_code 72 = .ok (.getfield 23, 3) := by decide +kernel
theorem d28_75 : decode prog_52_method_1_code 75 = .ok (.iload 7, 2) := by decide +kernel
theorem d28_77 : decode prog_52_method_1_code 77 = .ok (.bipush 64, 2) := by decide +kernel
theorem d28_79 : decode prog_52_method_1_code 79 = .ok (.idiv, 1) := by decide +kernel
theorem d28_80 : decode prog_52_method_1_code 80 = .ok (.dup2, 1) := by decide +kernel
theorem d28_81 : decode prog_52_method_1_code 81 = .ok (.laload, 1) := by decide +kernel
theorem d28_82 : decode prog_52_method_1_code 82 = .ok (.lconst 1, 1) := by decide +kernel
theorem d28_83 : decode prog_52_method_1_code 83 = .ok (.iload 7, 2) := by decide +kernel
theorem d28_85 : decode prog_52_method_1_code 85 = .ok (.bipush 64, 2) := by decide +kernel
theorem d28_87 : decode prog_52_method_1_code 87 = .ok (.irem, 1) := by decide +kernel
theorem d28_88 : decode prog_52_method_1_code 88 = .ok (.lshl, 1) := by decide +kernel
theorem d28_89 : decode prog_52_method_1_code 89 = .ok (.lor, 1) := by decide +kernel
theorem d28_90 : decode prog_52_method_1_code 90 = .ok (.lastore, 1) := by decide +kernel
theorem d28_91 : decode prog_52_method_1_code 91 = .ok (.goto 84, 3) := by decide +kernel
theorem d28_175 : decode prog_52_method_1_code 175 = .ok (.iinc 7 1, 3) := by decide +kernel
theorem d28_178 : decode prog_52_method_1_code 178 = .ok (.goto (-131), 3) := by decide +kernel
theorem d28_181 : decode prog_52_method_1_code 181 = .ok (.aload_n 0, 1) := by decide +kernel
theorem d28_182 : decode prog_52_method_1_code 182 = .ok (.lload_n 3, 1) := by decide +kernel
theorem d28_183 : decode prog_52_method_1_code 183 = .ok (.putfield 40, 3) := by decide +kernel
theorem d28_186 : decode prog_52_method_1_code 186 = .ok (.aload_n 0, 1) := by decide +kernel
theorem d28_187 : decode prog_52_method_1_code 187 = .ok (.lload 5, 2) := by decide +kernel
theorem d28_189 : decode prog_52_method_1_code 189 = .ok (.putfield 44, 3) := by decide +kernel
theorem d28_192 : decode prog_52_method_1_code 192 = .ok (.iconst 1, 1) := by decide +kernel
theorem d28_193 : decode prog_52_method_1_code 193 = .ok (.lload_n 3, 1) := by decide +kernel
theorem d28_194 : decode prog_52_method_1_code 194 = .ok (.invokestatic 47, 3) := by decide +kernel
theorem d28_197 : decode prog_52_method_1_code 197 = .ok (.iadd, 1) := by decide +kernel
theorem d28_198 : decode prog_52_method_1_code 198 = .ok (.lload 5, 2) := by decide +kernel
theorem d28_200 : decode prog_52_method_1_code 200 = .ok (.invokestatic 47, 3) := by decide +kernel
theorem d28_203 : decode prog_52_method_1_code 203 = .ok (.iadd, 1) := by decide +kernel
theorem d28_204 : decode prog_52_method_1_code 204 = .ok (.istore 7, 2) := by decide +kernel
theorem d28_206 : decode prog_52_method_1_code 206 = .ok (.aload_n 0, 1) := by decide +kernel
theorem d28_207 : decode prog_52_method_1_code 207 = .ok (.iload 7, 2) := by decide +kernel
theorem d28_209 : decode prog_52_method_1_code 209 = .ok (.aload_n 0, 1) := by decide +kernel
theorem d28_210 : decode prog_52_method_1_code 210 = .ok (.getfield 17, 3) := by decide +kernel
theorem d28_213 : decode prog_52_method_1_code 213 = .ok (.imul, 1) := by decide +kernel
theorem d28_214 : decode prog_52_method_1_code 214 = .ok (.newarray .long, 2) := by decide +kernel
theorem d28_216 : decode prog_52_method_1_code 216 = .ok (.putfield 51, 3) := by decide +kernel
theorem d28_219 : decode prog_52_method_1_code 219 = .ok (.iconst 0, 1) := by decide +kernel
theorem d28_220 : decode prog_52_method_1_code 220 = .ok (.istore 8, 2) := by decide +kernel
theorem d28_222 : decode prog_52_method_1_code 222 = .ok (.iload 8, 2) := by decide +kernel
theorem d28_224 : decode prog_52_method_1_code 224 = .ok (.iload 7, 2) := by decide +kernel
theorem d28_226 : decode prog_52_method_1_code 226 = .ok (.if_icmp .ge 29, 3) := by decide +kernel
theorem d28_229 : decode prog_52_method_1_code 229 = .ok (.aload_n 2, 1) := by decide +kernel
theorem d28_230 : decode prog_52_method_1_code 230 = .ok (.iconst 0, 1) := by decide +kernel
theorem d28_231 : decode prog_52_method_1_code 231 = .ok (.aload_n 0, 1) := by decide +kernel
theorem d28_232 : decode prog_52_method_1_code 232 = .ok (.getfield 51, 3) := by decide +kernel
theorem d28_235 : decode prog_52_method_1_code 235 = .ok (.iload 8, 2) := by decide +kernel
theorem d28_237 : decode prog_52_method_1_code 237 = .ok (.aload_n 0, 1) := by decide +kernel
theorem d28_238 : decode prog_52_method_1_code 238 = .ok (.getfield 17, 3) := by decide +kernel
theorem d28_241 : decode prog_52_method_1_code 241 = .ok (.imul, 1) := by decide +kernel
theorem d28_242 : decode prog_52_method_1_code 242 = .ok (.aload_n 0, 1) := by decide +kernel
theorem d28_243 : decode prog_52_method_1_code 243 = .ok (.getfield 17, 3) := by decide +kernel
theorem d28_246 : decode prog_52_method_1_code 246 = .ok (.invokestatic 54, 3) := by decide +kernel
theorem d28_249 : decode prog_52_method_1_code 249 = .ok (.iinc 8 1, 3) := by decide +kernel
theorem d28_252 : decode prog_52_method_1_code 252 = .ok (.goto (-30), 3) := by decide +kernel
theorem d28_255 : decode prog_52_method_1_code 255 = .ok (.iconst 0, 1) := by decide +kernel
theorem d28_256 : decode prog_52_method_1_code 256 = .ok (.istore 8, 2) := by decide +kernel
theorem d28_258 : decode prog_52_method_1_code 258 = .ok (.iload 8, 2) := by decide +kernel
theorem d28_260 : decode prog_52_method_1_code 260 = .ok (.aload_n 1, 1) := by decide +kernel
theorem d28_261 : decode prog_52_method_1_code 261 = .ok (.invokevirtual 9, 3) := by decide +kernel
theorem d28_264 : decode prog_52_method_1_code 264 = .ok (.if_icmp .ge 57, 3) := by decide +kernel
theorem d28_267 : decode prog_52_method_1_code 267 = .ok (.aload_n 1, 1) := by decide +kernel
theorem d28_268 : decode prog_52_method_1_code 268 = .ok (.iload 8, 2) := by decide +kernel
theorem d28_270 : decode prog_52_method_1_code 270 = .ok (.invokevirtual 27, 3) := by decide +kernel
theorem d28_273 : decode prog_52_method_1_code 273 = .ok (.istore 9, 2) := by decide +kernel
theorem d28_275 : decode prog_52_method_1_code 275 = .ok (.iload 9, 2) := by decide +kernel
theorem d28_277 : decode prog_52_method_1_code 277 = .ok (.invokestatic 60, 3) := by decide +kernel
theorem d28_280 : decode prog_52_method_1_code 280 = .ok (.ifCond .ne 35, 3) := by decide +kernel
theorem d28_315 : decode prog_52_method_1_code 315 = .ok (.iinc 8 1, 3) := by decide +kernel
theorem d28_318 : decode prog_52_method_1_code 318 = .ok (.goto (-60), 3) := by decide +kernel
theorem d28_321 : decode prog_52_method_1_code 321 = .ok (.return_, 1) := by decide +kernel
theorem d28_94 : decode prog_52_method_1_code 94 = .ok (.iload 8, 2) := by decide +kernel
theorem d28_96 : decode prog_52_method_1_code 96 = .ok (.bipush 63, 2) := by decide +kernel
theorem d28_98 : decode prog_52_method_1_code 98 = .ok (.if_icmp .ne 23, 3) := by decide +kernel
theorem d28_101 : decode prog_52_method_1_code 101 = .ok (.aload_n 2, 1) := by decide +kernel
theorem d28_102 : decode prog_52_method_1_code 102 = .ok (.iload 7, 2) := by decide +kernel
theorem d28_104 : decode prog_52_method_1_code 104 = .ok (.bipush 64, 2) := by decide +kernel
theorem d28_106 : decode prog_52_method_1_code 106 = .ok (.idiv, 1) := by decide +kernel
theorem d28_107 : decode prog_52_method_1_code 107 = .ok (.dup2, 1) := by decide +kernel
theorem d28_108 : decode prog_52_method_1_code 108 = .ok (.laload, 1) := by decide +kernel
theorem d28_109 : decode prog_52_method_1_code 109 = .ok (.lconst 1, 1) := by decide +kernel
theorem d28_110 : decode prog_52_method_1_code 110 = .ok (.iload 7, 2) := by decide +kernel
theorem d28_112 : decode prog_52_method_1_code 112 = .ok (.bipush 64, 2) := by decide +kernel
theorem d28_114 : decode prog_52_method_1_code 114 = .ok (.irem, 1) := by decide +kernel
theorem d28_115 : decode prog_52_method_1_code 115 = .ok (.lshl, 1) := by decide +kernel
theorem d28_116 : decode prog_52_method_1_code 116 = .ok (.lor, 1) := by decide +kernel
theorem d28_117 : decode prog_52_method_1_code 117 = .ok (.lastore, 1) := by decide +kernel
theorem d28_118 : decode prog_52_method_1_code 118 = .ok (.goto 57, 3) := by decide +kernel
theorem d28_121 : decode prog_52_method_1_code 121 = .ok (.iload 8, 2) := by decide +kernel
theorem d28_123 : decode prog_52_method_1_code 123 = .ok (.bipush 64, 2) := by decide +kernel
theorem d28_125 : decode prog_52_method_1_code 125 = .ok (.if_icmp .ge 13, 3) := by decide +kernel
theorem d28_128 : decode prog_52_method_1_code 128 = .ok (.lload_n 3, 1) := by decide +kernel
theorem d28_129 : decode prog_52_method_1_code 129 = .ok (.lconst 1, 1) := by decide +kernel
theorem d28_130 : decode prog_52_method_1_code 130 = .ok (.iload 8, 2) := by decide +kernel
theorem d28_132 : decode prog_52_method_1_code 132 = .ok (.lshl, 1) := by decide +kernel
theorem d28_133 : decode prog_52_method_1_code 133 = .ok (.lor, 1) := by decide +kernel
theorem d28_134 : decode prog_52_method_1_code 134 = .ok (.lstore_n 3, 1) := by decide +kernel
theorem d28_135 : decode prog_52_method_1_code 135 = .ok (.goto 40, 3) := by decide +kernel
theorem d28_283 : decode prog_52_method_1_code 283 = .ok (.aload_n 0, 1) := by decide +kernel
theorem d28_284 : decode prog_52_method_1_code 284 = .ok (.getfield 51, 3) := by decide +kernel
theorem d28_287 : decode prog_52_method_1_code 287 = .ok (.aload_n 0, 1) := by decide +kernel
theorem d28_288 : decode prog_52_method_1_code 288 = .ok (.iload 9, 2) := by decide +kernel
theorem pd27 : parseMethodDescriptor "(C)I" = some ⟨[.char], some .int⟩ := by decide +kernel
theorem d28_290 : decode prog_52_method_1_code 290 = .ok (.invokevirtual 64, 3) := by decide +kernel
theorem d28_293 : decode prog_52_method_1_code 293 = .ok (.aload_n 0, 1) := by decide +kernel
theorem d28_294 : decode prog_52_method_1_code 294 = .ok (.getfield 17, 3) := by decide +kernel
theorem d28_297 : decode prog_52_method_1_code 297 = .ok (.imul, 1) := by decide +kernel
theorem d28_298 : decode prog_52_method_1_code 298 = .ok (.iload 8, 2) := by decide +kernel
theorem d28_300 : decode prog_52_method_1_code 300 = .ok (.bipush 64, 2) := by decide +kernel
theorem d28_302 : decode prog_52_method_1_code 302 = .ok (.idiv, 1) := by decide +kernel
theorem d28_303 : decode prog_52_method_1_code 303 = .ok (.iadd, 1) := by decide +kernel
theorem d28_304 : decode prog_52_method_1_code 304 = .ok (.dup2, 1) := by decide +kernel
theorem d28_305 : decode prog_52_method_1_code 305 = .ok (.laload, 1) := by decide +kernel
theorem d28_306 : decode prog_52_method_1_code 306 = .ok (.lconst 1, 1) := by decide +kernel
theorem d28_307 : decode prog_52_method_1_code 307 = .ok (.iload 8, 2) := by decide +kernel
theorem d28_309 : decode prog_52_method_1_code 309 = .ok (.bipush 64, 2) := by decide +kernel
theorem d28_311 : decode prog_52_method_1_code 311 = .ok (.irem, 1) := by decide +kernel
theorem d28_312 : decode prog_52_method_1_code 312 = .ok (.lshl, 1) := by decide +kernel
theorem d28_313 : decode prog_52_method_1_code 313 = .ok (.lor, 1) := by decide +kernel
theorem d28_314 : decode prog_52_method_1_code 314 = .ok (.lastore, 1) := by decide +kernel
theorem d28_138 : decode prog_52_method_1_code 138 = .ok (.iload 8, 2) := by decide +kernel
theorem d28_140 : decode prog_52_method_1_code 140 = .ok (.sipush 128, 3) := by decide +kernel
theorem d28_143 : decode prog_52_method_1_code 143 = .ok (.if_icmp .ge 18, 3) := by decide +kernel
theorem d28_146 : decode prog_52_method_1_code 146 = .ok (.lload 5, 2) := by decide +kernel
theorem d28_148 : decode prog_52_method_1_code 148 = .ok (.lconst 1, 1) := by decide +kernel
theorem d28_149 : decode prog_52_method_1_code 149 = .ok (.iload 8, 2) := by decide +kernel
theorem d28_151 : decode prog_52_method_1_code 151 = .ok (.bipush 64, 2) := by decide +kernel
theorem d28_153 : decode prog_52_method_1_code 153 = .ok (.isub, 1) := by decide +kernel
theorem d28_154 : decode prog_52_method_1_code 154 = .ok (.lshl, 1) := by decide +kernel
theorem d28_155 : decode prog_52_method_1_code 155 = .ok (.lor, 1) := by decide +kernel
theorem d28_156 : decode prog_52_method_1_code 156 = .ok (.lstore 5, 2) := by decide +kernel
theorem d28_158 : decode prog_52_method_1_code 158 = .ok (.goto 17, 3) := by decide +kernel
theorem ef_28 (m : MethodId) (x0 : Addr) (x1 : Addr) : entryFrame m #[(.ref x0), (.ref x1)] 10 = mkF m 0 #[.val (.ref x0), .val (.ref x1), .unset, .unset, .unset, .unset, .unset, .unset, .unset, .unset] [] := by first | (simp [entryFrame, mkF, argsToLocals, Value.category]; done) | rfl
def Q28 (Z : State) (r0 : Addr) (r1 : Addr) (va : Addr) (kc : ClassId) (ch : Int32) (cs : Int32) (fm : Value) (h0 : Heap) (n0 : Nat) (v : Option Value) (h : Heap) (L : List Loc) : Prop := v = none ∧ Fr n0 L ∧ Keep h0 h [r0]
set_option maxRecDepth 65536 in
set_option maxHeartbeats 40000000 in
theorem rm28 (l : Launch) (Z : State) (a0 : Array Value) (hw : ∀ d ∈ tables_1, d.before a0 Z = true) (ws : List Jvm.Cond) (r0 : Addr) (r1 : Addr) (va : Addr) (kc : ClassId) (ch : Int32) (cs : Int32) (fm : Value) (h0 : Heap) (n0 : Nat) (Z0 : n0 ≤ h0.size) (F_words_r0 : Fld Z h0 r0 "com/example/subject/subject/model/Wildcards$Places" "words" "I" (.int (0 : Int32))) (F_heldLow_r0 : Fld Z h0 r0 "com/example/subject/subject/model/Wildcards$Places" "heldLow" "J" (.long (0 : Int64))) (F_heldHigh_r0 : Fld Z h0 r0 "com/example/subject/subject/model/Wildcards$Places" "heldHigh" "J" (.long (0 : Int64))) (F_fits_r0 : Fld Z h0 r0 "com/example/subject/subject/model/Wildcards$Places" "fits" "[J" .null) (F_stars_r0 : Fld Z h0 r0 "com/example/subject/subject/model/Wildcards$Places" "stars" "[J" .null) (E_r0 : Exa Z h0 r0 "com/example/subject/subject/model/Wildcards$Places") (g_r0 : n0 ≤ r0) (F_value_r1 : Fld Z h0 r1 "java/lang/String" "value" "[B" (.ref va)) (F_coder_r1 : Fld Z h0 r1 "java/lang/String" "coder" "B" (.int (0 : Int32))) (E_r1 : Exa Z h0 r1 "java/lang/String") (V_va : Arv Z h0 va kc .byte (1 : Int32) [(.int ch)] (.int (0 : Int32))) (O0 : Old Z n0 h0) (S_cs : Sta Z Z.heap "java/lang/String" "COMPACT_STRINGS" "Z" (.int cs)) (hcs : ¬ (cs = (0 : Int32))) (S_fm : Sta Z Z.heap "jdk/internal/util/Preconditions" "SIOOBE_FORMATTER" "Ljava/util/function/BiFunction;" fm) (hr_fm : fm.isRef = true) (hok_ch : own_ok ch) :
    MetFree l (⟨"com/example/subject/subject/model/Wildcards$Places", "<init>", "(Ljava/lang/String;)V"⟩ : MethodName) (head1 (Jvm.Cond.code (⟨"com/example/subject/subject/model/Wildcards$Places", "<init>", "(Ljava/lang/String;)V"⟩ : MethodName) prog_52_method_1_code 10 none :: ws) ({ frames := 4, cells := 3, slots := 4, locals := 53 } : Room)) (fun a U => a = #[(.ref r0), (.ref r1)] ∧ Z.Warmed39 U.vm ∧ U.heap = h0) (fun _ _ _ _ _ => True) (fun _ U o U' => ∃ v L, o = .returned v ∧ Q28 Z r0 r1 va kc ch cs fm h0 n0 v U'.heap L ∧ FrameEnd U o U' L ({ frames := 4, cells := 3, slots := 4, locals := 53 } : Room).cells ({ frames := 4, cells := 3, slots := 4, locals := 53 } : Room).slots) := by
  refine MetFree.of_bodySF (plainFor_of_name pn24) hisR ?_
  intro p e s m args below meth c s₁ Bd hml0 hP hK
  obtain ⟨rfl, hZ, hh⟩ := hP
  have hx := Bd.exec
  have hby := Bd.bytes
  have hml : c.maxLocals = 10 := hml0
  have hown : s.vm.findClass "com/example/subject/subject/model/Wildcards$Places" = some m.cls := findClass_of_methodNamed Bd.named
  have hnm := (name_of_methodNamed Bd.named Bd.method).1
  have X0 : Stand p l e ({ frames := 4, cells := 3, slots := 4, locals := 53 } : Room) s m #[(.ref r0), (.ref r1)] below meth c s₁ [] 0 0 := Stand.of_body Bd
  have e0 : s₁.heap = h0 := by rw [← hh, Bd.state]; rfl
  have N0 := Fr.nil n0
  have pre0 : ∀ t, Steps p.tables e below (s₁.setTop (mkF m 0 #[rv r0, rv r1, .unset, .unset, .unset, .unset, .unset, .unset, .unset, .unset] [])) t → Steps p.tables e below (s₁.setTop (entryFrame m #[(.ref r0), (.ref r1)] 10)) t := fun t k => castTop (ef_28 m r0 r1) k
  have pre1 : ∀ t, Steps p.tables e below (s₁.setTop (mkF m 1 #[rv r0, rv r1, .unset, .unset, .unset, .unset, .unset, .unset, .unset, .unset] [(.ref r0)])) t → Steps p.tables e below (s₁.setTop (entryFrame m #[(.ref r0), (.ref r1)] 10)) t := by
    intro t kt
    refine pre0 _ ?_
    show Steps p.tables e below (s₁.setTop (mkF m 0 #[rv r0, rv r1, .unset, .unset, .unset, .unset, .unset, .unset, .unset, .unset] [])) _
    refine XS.aloadN X0.here hx rfl (hb hby d28_0) rfl rfl ?_
    exact kt
  obtain ⟨T2, X2, e2, st2⟩ := initO X0 hx hZ hown (hw _ (List.mem_of_getElem? (i := 137) rfl)) (hw _ (List.mem_of_getElem? (i := 25) rfl)) (hw _ (List.mem_of_getElem? (i := 26) rfl)) e0 (g := (mkF m 1 #[rv r0, rv r1, .unset, .unset, .unset, .unset, .unset, .unset, .unset, .unset] [(.ref r0)])) rfl (by rw [hml]; rfl) rfl (hb hby d28_1) (by decide) (W := 0) (by show 2 * 0 + _ ≤ _; exact Nat.le_of_eq rfl) (by decide)
  have pre3 : ∀ t, Steps p.tables e below (T2.setTop (mkF m 6 #[rv r0, rv r1, .unset, .unset, .unset, .unset, .unset, .unset, .unset, .unset] [(.ref r1), (.ref r0)])) t → Steps p.tables e below (s₁.setTop (entryFrame m #[(.ref r0), (.ref r1)] 10)) t := by
    intro t kt
    refine pre1 _ ?_
    show Steps p.tables e below (s₁.setTop (mkF m 1 #[rv r0, rv r1, .unset, .unset, .unset, .unset, .unset, .unset, .unset, .unset] [(.ref r0)])) _
    refine st2 _ ?_
    show Steps p.tables e below (T2.setTop (mkF m 4 #[rv r0, rv r1, .unset, .unset, .unset, .unset, .unset, .unset, .unset, .unset] [])) _
    refine XS.aloadN X2.here hx rfl (hb hby d28_4) rfl rfl ?_
    refine XS.aloadN X2.here hx rfl (hb hby d28_5) rfl rfl ?_
    exact kt
  obtain ⟨cq4, kq4, q4a, q4b, q4c⟩ := isOf hZ e2 E_r1
  obtain ⟨_, _, ⟨T4, L4, k4, n4⟩, -, X4, ⟨Lc4, hQ4, l4, y4, z4⟩, st4⟩ := X2.virtualBack hx (y := (⟨"java/lang/String", "length", "()I"⟩ : MethodName)) (z := (⟨"java/lang/String", "length", "()I"⟩ : MethodName)) hown (mvT hZ (hw _ (List.mem_of_getElem? (i := 138) rfl))) (mvT hZ (hw _ (List.mem_of_getElem? (i := 94) rfl))) (notFace_of_selects (args := #[]) (mvT hZ (hw _ (List.mem_of_getElem? (i := 96) rfl)))) (mvT hZ (hw _ (List.mem_of_getElem? (i := 96) rfl))) (mvT hZ (hw _ (List.mem_of_getElem? (i := 95) rfl))) (by decide) (backOf (W := 1) (rm19 l Z a0 hw [] r1 va kc ch cs h0 n0 (Nat.le_trans Z0 (Keep.refl h0 [r0]).1) F_value_r1 F_coder_r1 E_r1 V_va (O0.keep (Keep.refl h0 [r0]) (allS g_r0 all0)) S_cs hcs) hZ (hw _ (List.mem_of_getElem? (i := 97) rfl)) (hw _ (List.mem_of_getElem? (i := 7) rfl)) (by decide) (by decide)) q4a q4c (g := (mkF m 6 #[rv r0, rv r1, .unset, .unset, .unset, .unset, .unset, .unset, .unset, .unset] [(.ref r1), (.ref r0)])) rfl (by rw [hml]; rfl) (Steps.refl _) (argsL := []) (rest := [(.ref r0)]) (lenOf pd21 rfl) rfl (by show 2 * 0 + _ ≤ _; exact Nat.le_of_eq rfl) (hb hby d28_6) (fun _ _ => ⟨rfl, e2, (by decide : 0 + 0 ≤ _), (by decide : 0 + 0 ≤ _)⟩)
  dsimp only [Pt.U, Pt.locs, Pt.cells, Pt.slots] at X4 l4 y4 z4 st4 hQ4
  subst l4 y4 z4
  obtain ⟨rfl, N4q, hh4⟩ := hQ4
  have N4 := Fr.app N0 N4q
  have pre5 : ∀ t, Steps p.tables e below (T4.setTop (mkF m 19 #[rv r0, rv r1, .unset, .unset, .unset, .unset, .unset, .unset, .unset, .unset] [(.int (1 : Int32)), (.ref r0)])) t → Steps p.tables e below (s₁.setTop (entryFrame m #[(.ref r0), (.ref r1)] 10)) t := by
    intro t kt
    refine pre3 _ ?_
    show Steps p.tables e below (T2.setTop (mkF m 6 #[rv r0, rv r1, .unset, .unset, .unset, .unset, .unset, .unset, .unset, .unset] [(.ref r1), (.ref r0)])) _
    refine st4.trans ?_
    show Steps p.tables e below (T4.setTop (mkF m 9 #[rv r0, rv r1, .unset, .unset, .unset, .unset, .unset, .unset, .unset, .unset] [(.int (1 : Int32)), (.ref r0)])) _
    refine XS.iconst X4.here hx rfl (hb hby d28_9) ?_
    refine XS.iadd X4.here hx rfl (hb hby d28_10) rfl ?_
    show Steps p.tables e below (T4.setTop (mkF m 11 #[rv r0, rv r1, .unset, .unset, .unset, .unset, .unset, .unset, .unset, .unset] [(.int ((1 : Int32) + (1 : Int32))), (.ref r0)])) _
    rw [show ((1 : Int32) + (1 : Int32)) = (2 : Int32) from (by decide)]
    show Steps p.tables e below (T4.setTop (mkF m 11 #[rv r0, rv r1, .unset, .unset, .unset, .unset, .unset, .unset, .unset, .unset] [(.int (2 : Int32)), (.ref r0)])) _
    refine XS.bipush X4.here hx rfl (hb hby d28_11) ?_
    refine XS.iadd X4.here hx rfl (hb hby d28_13) rfl ?_
    show Steps p.tables e below (T4.setTop (mkF m 14 #[rv r0, rv r1, .unset, .unset, .unset, .unset, .unset, .unset, .unset, .unset] [(.int ((2 : Int32) + (64 : Int32))), (.ref r0)])) _
    rw [show ((2 : Int32) + (64 : Int32)) = (66 : Int32) from (by decide)]
    show Steps p.tables e below (T4.setTop (mkF m 14 #[rv r0, rv r1, .unset, .unset, .unset, .unset, .unset, .unset, .unset, .unset] [(.int (66 : Int32)), (.ref r0)])) _
    refine XS.iconst X4.here hx rfl (hb hby d28_14) ?_
    refine XS.isub X4.here hx rfl (hb hby d28_15) rfl ?_
    show Steps p.tables e below (T4.setTop (mkF m 16 #[rv r0, rv r1, .unset, .unset, .unset, .unset, .unset, .unset, .unset, .unset] [(.int ((66 : Int32) - (1 : Int32))), (.ref r0)])) _
    rw [show ((66 : Int32) - (1 : Int32)) = (65 : Int32) from (by decide)]
    show Steps p.tables e below (T4.setTop (mkF m 16 #[rv r0, rv r1, .unset, .unset, .unset, .unset, .unset, .unset, .unset, .unset] [(.int (65 : Int32)), (.ref r0)])) _
    refine XS.bipush X4.here hx rfl (hb hby d28_16) ?_
    refine XS.idiv X4.here hx rfl (hb hby d28_18) rfl (by decide) ?_
    show Steps p.tables e below (T4.setTop (mkF m 19 #[rv r0, rv r1, .unset, .unset, .unset, .unset, .unset, .unset, .unset, .unset] [(.int ((65 : Int32) / (64 : Int32))), (.ref r0)])) _
    rw [show ((65 : Int32) / (64 : Int32)) = (1 : Int32) from (by decide)]
    exact kt
  obtain ⟨T6, h6, X6, e6, W6, st6⟩ := putF X4 hx hZ hown (host := "") (Or.inl (hw _ (List.mem_of_getElem? (i := 139) rfl))) Via.refl hh4 F_words_r0 E_r0 (Or.inr ⟨(hw _ (List.mem_of_getElem? (i := 140) rfl)), rfl, hnm⟩) (hw _ (List.mem_of_getElem? (i := 132) rfl)) (ty := .int) (by decide) rfl rfl (g := (mkF m 19 #[rv r0, rv r1, .unset, .unset, .unset, .unset, .unset, .unset, .unset, .unset] [(.int (1 : Int32)), (.ref r0)])) rfl rfl (hb hby d28_19)
  have Fw6 : Fld Z h6 r0 "com/example/subject/subject/model/Wildcards$Places" "words" "I" (.int (1 : Int32)) := F_words_r0.same W6
  have K6 : Keep h0 h6 [r0] := (Keep.refl h0 [r0]).wr W6 (Or.inl (List.mem_of_getElem? (i := 0) rfl))
  have N6 := Fr.snoc X6 N4 g_r0
  have pre7 : ∀ t, Steps p.tables e below (T6.setTop (mkF m 24 #[rv r0, rv r1, .unset, .unset, .unset, .unset, .unset, .unset, .unset, .unset] [(.ref r0), (.ref r0)])) t → Steps p.tables e below (s₁.setTop (entryFrame m #[(.ref r0), (.ref r1)] 10)) t := by
    intro t kt
    refine pre5 _ ?_
    show Steps p.tables e below (T4.setTop (mkF m 19 #[rv r0, rv r1, .unset, .unset, .unset, .unset, .unset, .unset, .unset, .unset] [(.int (1 : Int32)), (.ref r0)])) _
    refine st6 _ ?_
    show Steps p.tables e below (T6.setTop (mkF m 22 #[rv r0, rv r1, .unset, .unset, .unset, .unset, .unset, .unset, .unset, .unset] [])) _
    refine XS.aloadN X6.here hx rfl (hb hby d28_22) rfl rfl ?_
    refine XS.aloadN X6.here hx rfl (hb hby d28_23) rfl rfl ?_
    exact kt
  obtain ⟨T8, X8, e8, st8⟩ := getF X6 hx hZ hown (host := "") (Or.inl (hw _ (List.mem_of_getElem? (i := 139) rfl))) Via.refl e6 Fw6 (g := (mkF m 24 #[rv r0, rv r1, .unset, .unset, .unset, .unset, .unset, .unset, .unset, .unset] [(.ref r0), (.ref r0)])) rfl rfl (hb hby d28_24)
  have pre9 : ∀ t, Steps p.tables e below (T8.setTop (mkF m 27 #[rv r0, rv r1, .unset, .unset, .unset, .unset, .unset, .unset, .unset, .unset] [(.int (1 : Int32)), (.ref r0)])) t → Steps p.tables e below (s₁.setTop (entryFrame m #[(.ref r0), (.ref r1)] 10)) t := by
    intro t kt
    refine pre7 _ ?_
    show Steps p.tables e below (T6.setTop (mkF m 24 #[rv r0, rv r1, .unset, .unset, .unset, .unset, .unset, .unset, .unset, .unset] [(.ref r0), (.ref r0)])) _
    refine st8 _ ?_
    exact kt
  obtain ⟨T10, h10, k10, X10, e10, E10, A10, Ex10, st10⟩ := newPE X8 hx hZ (hw _ (List.mem_of_getElem? (i := 141) rfl)) e8 (g := (mkF m 27 #[rv r0, rv r1, .unset, .unset, .unset, .unset, .unset, .unset, .unset, .unset] [(.int (1 : Int32)), (.ref r0)])) rfl (hb hby d28_27) rfl (by decide) (cap := 1) (by decide) (by decide) (by decide) (by decide) (ad := "[J") rfl
  obtain ⟨b10, g10⟩ : ∃ z, z = h6.size := ⟨_, rfl⟩
  rw [← g10] at A10 Ex10 st10
  have g_b10 : n0 ≤ b10 := Nat.le_trans (Nat.le_trans Z0 K6.1) (Nat.le_of_eq g10.symm)
  have sz_b10 : h0.size ≤ b10 := Nat.le_trans K6.1 (Nat.le_of_eq g10.symm)
  have V_b10 : Arv Z h10 b10 k10 .long (1 : Int32) [(.long (0 : Int64))] (.long (0 : Int64)) := (Arv.new A10 (by decide)).pad (pad_rep [] (.long (0 : Int64)) 1)
  have K10 : Keep h0 h10 [r0] := K6.ext E10
  have pre11 : ∀ t, Steps p.tables e below (T10.setTop (mkF m 29 #[rv r0, rv r1, .unset, .unset, .unset, .unset, .unset, .unset, .unset, .unset] [(.ref b10), (.ref r0)])) t → Steps p.tables e below (s₁.setTop (entryFrame m #[(.ref r0), (.ref r1)] 10)) t := by
    intro t kt
    refine pre9 _ ?_
    show Steps p.tables e below (T8.setTop (mkF m 27 #[rv r0, rv r1, .unset, .unset, .unset, .unset, .unset, .unset, .unset, .unset] [(.int (1 : Int32)), (.ref r0)])) _
    refine st10 _ ?_
    exact kt
  obtain ⟨T12, h12, X12, e12, W12, st12⟩ := putF X10 hx hZ hown (host := "") (Or.inl (hw _ (List.mem_of_getElem? (i := 142) rfl))) Via.refl e10 ((F_stars_r0.other W6 (Or.inr (slot_ne (Or.inr (hw _ (List.mem_of_getElem? (i := 143) rfl))) (Or.inr (hw _ (List.mem_of_getElem? (i := 140) rfl))) (by decide) (t := (.array .long)) (t' := .int) (by decide) (by decide)))).ext E10) ((E_r0.wr W6).ext E10) (Or.inr ⟨(hw _ (List.mem_of_getElem? (i := 143) rfl)), rfl, hnm⟩) (hw _ (List.mem_of_getElem? (i := 132) rfl)) (ty := (.array .long)) (by decide) rfl rfl (g := (mkF m 29 #[rv r0, rv r1, .unset, .unset, .unset, .unset, .unset, .unset, .unset, .unset] [(.ref b10), (.ref r0)])) rfl rfl (hb hby d28_29)
  have Fw12 : Fld Z h12 r0 "com/example/subject/subject/model/Wildcards$Places" "stars" "[J" (.ref b10) := ((F_stars_r0.other W6 (Or.inr (slot_ne (Or.inr (hw _ (List.mem_of_getElem? (i := 143) rfl))) (Or.inr (hw _ (List.mem_of_getElem? (i := 140) rfl))) (by decide) (t := (.array .long)) (t' := .int) (by decide) (by decide)))).ext E10).same W12
  have K12 : Keep h0 h12 [r0] := K10.wr W12 (Or.inl (List.mem_of_getElem? (i := 0) rfl))
  have N12 := Fr.snoc X12 N6 g_r0
  have pre13 : ∀ t, Steps p.tables e below (T12.setTop (mkF m 33 #[rv r0, rv r1, .unset, .unset, .unset, .unset, .unset, .unset, .unset, .unset] [(.ref r0)])) t → Steps p.tables e below (s₁.setTop (entryFrame m #[(.ref r0), (.ref r1)] 10)) t := by
    intro t kt
    refine pre11 _ ?_
    show Steps p.tables e below (T10.setTop (mkF m 29 #[rv r0, rv r1, .unset, .unset, .unset, .unset, .unset, .unset, .unset, .unset] [(.ref b10), (.ref r0)])) _
    refine st12 _ ?_
    show Steps p.tables e below (T12.setTop (mkF m 32 #[rv r0, rv r1, .unset, .unset, .unset, .unset, .unset, .unset, .unset, .unset] [])) _
    refine XS.aloadN X12.here hx rfl (hb hby d28_32) rfl rfl ?_
    exact kt
  obtain ⟨T14, X14, e14, st14⟩ := getF X12 hx hZ hown (host := "") (Or.inl (hw _ (List.mem_of_getElem? (i := 139) rfl))) Via.refl e12 ((Fw6.ext E10).other W12 (Or.inr (slot_ne (Or.inr (hw _ (List.mem_of_getElem? (i := 140) rfl))) (Or.inr (hw _ (List.mem_of_getElem? (i := 143) rfl))) (by decide) (t := .int) (t' := (.array .long)) (by decide) (by decide)))) (g := (mkF m 33 #[rv r0, rv r1, .unset, .unset, .unset, .unset, .unset, .unset, .unset, .unset] [(.ref r0)])) rfl rfl (hb hby d28_33)
  have pre15 : ∀ t, Steps p.tables e below (T14.setTop (mkF m 36 #[rv r0, rv r1, .unset, .unset, .unset, .unset, .unset, .unset, .unset, .unset] [(.int (1 : Int32))])) t → Steps p.tables e below (s₁.setTop (entryFrame m #[(.ref r0), (.ref r1)] 10)) t := by
    intro t kt
    refine pre13 _ ?_
    show Steps p.tables e below (T12.setTop (mkF m 33 #[rv r0, rv r1, .unset, .unset, .unset, .unset, .unset, .unset, .unset, .unset] [(.ref r0)])) _
    refine st14 _ ?_
    exact kt
  obtain ⟨T16, h16, k16, X16, e16, E16, A16, Ex16, st16⟩ := newPE X14 hx hZ (hw _ (List.mem_of_getElem? (i := 141) rfl)) e14 (g := (mkF m 36 #[rv r0, rv r1, .unset, .unset, .unset, .unset, .unset, .unset, .unset, .unset] [(.int (1 : Int32))])) rfl (hb hby d28_36) rfl (by decide) (cap := 1) (by decide) (by decide) (by decide) (by decide) (ad := "[J") rfl
  obtain ⟨b16, g16⟩ : ∃ z, z = h12.size := ⟨_, rfl⟩
  rw [← g16] at A16 Ex16 st16
  have g_b16 : n0 ≤ b16 := Nat.le_trans (Nat.le_trans Z0 K12.1) (Nat.le_of_eq g16.symm)
  have sz_b16 : h0.size ≤ b16 := Nat.le_trans K12.1 (Nat.le_of_eq g16.symm)
  have V_b16 : Arv Z h16 b16 k16 .long (1 : Int32) [(.long (0 : Int64))] (.long (0 : Int64)) := (Arv.new A16 (by decide)).pad (pad_rep [] (.long (0 : Int64)) 1)
  have K16 : Keep h0 h16 [r0] := K12.ext E16
  have pre17 : ∀ t, Steps p.tables e below (T16.setTop (mkF m 50 #[rv r0, rv r1, rv b16, .val (.long (0 : Int64)), .second, .val (.long (0 : Int64)), .second, iv (0 : Int32), .unset, .unset] [(.ref r1), (.int (0 : Int32))])) t → Steps p.tables e below (s₁.setTop (entryFrame m #[(.ref r0), (.ref r1)] 10)) t := by
    intro t kt
    refine pre15 _ ?_
    show Steps p.tables e below (T14.setTop (mkF m 36 #[rv r0, rv r1, .unset, .unset, .unset, .unset, .unset, .unset, .unset, .unset] [(.int (1 : Int32))])) _
    refine st16 _ ?_
    show Steps p.tables e below (T16.setTop (mkF m 38 #[rv r0, rv r1, .unset, .unset, .unset, .unset, .unset, .unset, .unset, .unset] [(.ref b16)])) _
    refine XS.astoreN X16.here hx rfl (hb hby d28_38) rfl rfl (l' := #[rv r0, rv r1, rv b16, .unset, .unset, .unset, .unset, .unset, .unset, .unset]) rfl ?_
    refine XS.lconst X16.here hx rfl (hb hby d28_39) ?_
    refine XS.lstoreN X16.here hx rfl (hb hby d28_40) rfl (l' := #[rv r0, rv r1, rv b16, .val (.long (0 : Int64)), .second, .unset, .unset, .unset, .unset, .unset]) rfl ?_
    refine XS.lconst X16.here hx rfl (hb hby d28_41) ?_
    refine XS.lstore X16.here hx rfl (hb hby d28_42) rfl (l' := #[rv r0, rv r1, rv b16, .val (.long (0 : Int64)), .second, .val (.long (0 : Int64)), .second, .unset, .unset, .unset]) rfl ?_
    refine XS.iconst X16.here hx rfl (hb hby d28_44) ?_
    refine XS.istore X16.here hx rfl (hb hby d28_45) rfl (l' := #[rv r0, rv r1, rv b16, .val (.long (0 : Int64)), .second, .val (.long (0 : Int64)), .second, iv (0 : Int32), .unset, .unset]) rfl ?_
    refine XS.iload X16.here hx rfl (hb hby d28_47) rfl ?_
    refine XS.aloadN X16.here hx rfl (hb hby d28_49) rfl rfl ?_
    exact kt
  have f18 := ((((V_va.other W6 (Ne.symm (Exa.neArv E_r0 V_va (hw _ (List.mem_of_getElem? (i := 132) rfl))))).ext E10).other W12 (Ne.symm (Exa.neArv E_r0 V_va (hw _ (List.mem_of_getElem? (i := 132) rfl))))).ext E16)
  have f19 := ((((E_r0.wr W6).ext E10).wr W12).ext E16)
  have f20 := (((Fw6.ext E10).other W12 (Or.inr (slot_ne (Or.inr (hw _ (List.mem_of_getElem? (i := 140) rfl))) (Or.inr (hw _ (List.mem_of_getElem? (i := 143) rfl))) (by decide) (t := .int) (t' := (.array .long)) (by decide) (by decide)))).ext E16)
  have f21 := ((((F_heldLow_r0.other W6 (Or.inr (slot_ne (Or.inr (hw _ (List.mem_of_getElem? (i := 161) rfl))) (Or.inr (hw _ (List.mem_of_getElem? (i := 140) rfl))) (by decide) (t := .long) (t' := .int) (by decide) (by decide)))).ext E10).other W12 (Or.inr (slot_ne (Or.inr (hw _ (List.mem_of_getElem? (i := 161) rfl))) (Or.inr (hw _ (List.mem_of_getElem? (i := 143) rfl))) (by decide) (t := .long) (t' := (.array .long)) (by decide) (by decide)))).ext E16)
  have f22 := ((((F_heldHigh_r0.other W6 (Or.inr (slot_ne (Or.inr (hw _ (List.mem_of_getElem? (i := 163) rfl))) (Or.inr (hw _ (List.mem_of_getElem? (i := 140) rfl))) (by decide) (t := .long) (t' := .int) (by decide) (by decide)))).ext E10).other W12 (Or.inr (slot_ne (Or.inr (hw _ (List.mem_of_getElem? (i := 163) rfl))) (Or.inr (hw _ (List.mem_of_getElem? (i := 143) rfl))) (by decide) (t := .long) (t' := (.array .long)) (by decide) (by decide)))).ext E16)
  have f23 := ((((F_fits_r0.other W6 (Or.inr (slot_ne (Or.inr (hw _ (List.mem_of_getElem? (i := 172) rfl))) (Or.inr (hw _ (List.mem_of_getElem? (i := 140) rfl))) (by decide) (t := (.array .long)) (t' := .int) (by decide) (by decide)))).ext E10).other W12 (Or.inr (slot_ne (Or.inr (hw _ (List.mem_of_getElem? (i := 172) rfl))) (Or.inr (hw _ (List.mem_of_getElem? (i := 143) rfl))) (by decide) (t := (.array .long)) (t' := (.array .long)) (by decide) (by decide)))).ext E16)
  have f24 := ((((E_r1.wr W6).ext E10).wr W12).ext E16)
  have f25 := ((((F_value_r1.other W6 (Or.inl (Exa.ne f24 f19 (by decide)))).ext E10).other W12 (Or.inl (Exa.ne f24 f19 (by decide)))).ext E16)
  have f26 := ((((F_coder_r1.other W6 (Or.inl (Exa.ne f24 f19 (by decide)))).ext E10).other W12 (Or.inl (Exa.ne f24 f19 (by decide)))).ext E16)
  obtain ⟨cq27, kq27, q27a, q27b, q27c⟩ := isOf hZ e16 f24
  obtain ⟨_, _, ⟨T27, L27, k27, n27⟩, -, X27, ⟨Lc27, hQ27, l27, y27, z27⟩, st27⟩ := X16.virtualBack hx (y := (⟨"java/lang/String", "length", "()I"⟩ : MethodName)) (z := (⟨"java/lang/String", "length", "()I"⟩ : MethodName)) hown (mvT hZ (hw _ (List.mem_of_getElem? (i := 138) rfl))) (mvT hZ (hw _ (List.mem_of_getElem? (i := 94) rfl))) (notFace_of_selects (args := #[]) (mvT hZ (hw _ (List.mem_of_getElem? (i := 96) rfl)))) (mvT hZ (hw _ (List.mem_of_getElem? (i := 96) rfl))) (mvT hZ (hw _ (List.mem_of_getElem? (i := 95) rfl))) (by decide) (backOf (W := 1) (rm19 l Z a0 hw [] r1 va kc ch cs h16 n0 (Nat.le_trans Z0 K16.1) f25 f26 f24 f18 (O0.keep K16 (allS g_r0 all0)) S_cs hcs) hZ (hw _ (List.mem_of_getElem? (i := 97) rfl)) (hw _ (List.mem_of_getElem? (i := 7) rfl)) (by decide) (by decide)) q27a q27c (g := (mkF m 50 #[rv r0, rv r1, rv b16, .val (.long (0 : Int64)), .second, .val (.long (0 : Int64)), .second, iv (0 : Int32), .unset, .unset] [(.ref r1), (.int (0 : Int32))])) rfl (by rw [hml]; rfl) (Steps.refl _) (argsL := []) (rest := [(.int (0 : Int32))]) (lenOf pd21 rfl) rfl (by show 2 * 0 + _ ≤ _; exact Nat.le_of_eq rfl) (hb hby d28_50) (fun _ _ => ⟨rfl, e16, (by decide : 2 + 0 ≤ _), (by decide : 2 + 0 ≤ _)⟩)
  dsimp only [Pt.U, Pt.locs, Pt.cells, Pt.slots] at X27 l27 y27 z27 st27 hQ27
  subst l27 y27 z27
  obtain ⟨rfl, N27q, hh27⟩ := hQ27
  have N27 := Fr.app N12 N27q
  have pre28 : ∀ t, Steps p.tables e below (T27.setTop (mkF m 59 #[rv r0, rv r1, rv b16, .val (.long (0 : Int64)), .second, .val (.long (0 : Int64)), .second, iv (0 : Int32), .unset, .unset] [(.int (0 : Int32)), (.ref r1)])) t → Steps p.tables e below (s₁.setTop (entryFrame m #[(.ref r0), (.ref r1)] 10)) t := by
    intro t kt
    refine pre17 _ ?_
    show Steps p.tables e below (T16.setTop (mkF m 50 #[rv r0, rv r1, rv b16, .val (.long (0 : Int64)), .second, .val (.long (0 : Int64)), .second, iv (0 : Int32), .unset, .unset] [(.ref r1), (.int (0 : Int32))])) _
    refine st27.trans ?_
    show Steps p.tables e below (T27.setTop (mkF m 53 #[rv r0, rv r1, rv b16, .val (.long (0 : Int64)), .second, .val (.long (0 : Int64)), .second, iv (0 : Int32), .unset, .unset] [(.int (1 : Int32)), (.int (0 : Int32))])) _
    refine XS.icmpNo X27.here hx rfl (hb hby d28_53) rfl (tlt (by decide)).2.1 ?_
    refine XS.aloadN X27.here hx rfl (hb hby d28_56) rfl rfl ?_
    refine XS.iload X27.here hx rfl (hb hby d28_57) rfl ?_
    exact kt
  obtain ⟨cq29, kq29, q29a, q29b, q29c⟩ := isOf hZ hh27 f24
  obtain ⟨_, _, ⟨T29, L29, k29, n29⟩, -, X29, ⟨Lc29, hQ29, l29, y29, z29⟩, st29⟩ := X27.virtualBack hx (y := (⟨"java/lang/String", "charAt", "(I)C"⟩ : MethodName)) (z := (⟨"java/lang/String", "charAt", "(I)C"⟩ : MethodName)) hown (mvT hZ (hw _ (List.mem_of_getElem? (i := 144) rfl))) (mvT hZ (hw _ (List.mem_of_getElem? (i := 145) rfl))) (notFace_of_selects (args := #[]) (mvT hZ (hw _ (List.mem_of_getElem? (i := 147) rfl)))) (mvT hZ (hw _ (List.mem_of_getElem? (i := 147) rfl))) (mvT hZ (hw _ (List.mem_of_getElem? (i := 146) rfl))) (by decide) (backOf (W := 0) (rm29 l Z a0 hw [] r1 va kc ch cs fm h16 n0 (Nat.le_trans Z0 K16.1) f25 f26 f24 f18 (O0.keep K16 (allS g_r0 all0)) S_cs hcs S_fm hr_fm hok_ch) hZ (hw _ (List.mem_of_getElem? (i := 148) rfl)) (hw _ (List.mem_of_getElem? (i := 7) rfl)) (by decide) (by decide)) q29a q29c (g := (mkF m 59 #[rv r0, rv r1, rv b16, .val (.long (0 : Int64)), .second, .val (.long (0 : Int64)), .second, iv (0 : Int32), .unset, .unset] [(.int (0 : Int32)), (.ref r1)])) rfl (by rw [hml]; rfl) (Steps.refl _) (argsL := [(.int (0 : Int32))]) (rest := []) (lenOf pd26 rfl) rfl (by show 2 * 0 + _ ≤ _; exact Nat.le_of_eq rfl) (hb hby d28_59) (fun _ _ => ⟨rfl, hh27, (by decide : 2 + 0 ≤ _), (by decide : 2 + 0 ≤ _)⟩)
  dsimp only [Pt.U, Pt.locs, Pt.cells, Pt.slots] at X29 l29 y29 z29 st29 hQ29
  subst l29 y29 z29
  obtain ⟨rfl, N29q, hh29⟩ := hQ29
  have N29 := Fr.app N27 N29q
  have pre30 : ∀ t, Steps p.tables e below (T29.setTop (mkF m 68 #[rv r0, rv r1, rv b16, .val (.long (0 : Int64)), .second, .val (.long (0 : Int64)), .second, iv (0 : Int32), iv ch, .unset] [(.int (42 : Int32)), (.int ch)])) t → Steps p.tables e below (s₁.setTop (entryFrame m #[(.ref r0), (.ref r1)] 10)) t := by
    intro t kt
    refine pre28 _ ?_
    show Steps p.tables e below (T27.setTop (mkF m 59 #[rv r0, rv r1, rv b16, .val (.long (0 : Int64)), .second, .val (.long (0 : Int64)), .second, iv (0 : Int32), .unset, .unset] [(.int (0 : Int32)), (.ref r1)])) _
    refine st29.trans ?_
    show Steps p.tables e below (T29.setTop (mkF m 62 #[rv r0, rv r1, rv b16, .val (.long (0 : Int64)), .second, .val (.long (0 : Int64)), .second, iv (0 : Int32), .unset, .unset] [(.int ch)])) _
    refine XS.istore X29.here hx rfl (hb hby d28_62) rfl (l' := #[rv r0, rv r1, rv b16, .val (.long (0 : Int64)), .second, .val (.long (0 : Int64)), .second, iv (0 : Int32), iv ch, .unset]) rfl ?_
    refine XS.iload X29.here hx rfl (hb hby d28_64) rfl ?_
    refine XS.bipush X29.here hx rfl (hb hby d28_66) ?_
    exact kt
  by_cases hc68 : ch = (42 : Int32)
  · have pre31 : ∀ t, Steps p.tables e below (T29.setTop (mkF m 72 #[rv r0, rv r1, rv b16, .val (.long (0 : Int64)), .second, .val (.long (0 : Int64)), .second, iv (0 : Int32), iv ch, .unset] [(.ref r0)])) t → Steps p.tables e below (s₁.setTop (entryFrame m #[(.ref r0), (.ref r1)] 10)) t := by
      intro t kt
      refine pre30 _ ?_
      show Steps p.tables e below (T29.setTop (mkF m 68 #[rv r0, rv r1, rv b16, .val (.long (0 : Int64)), .second, .val (.long (0 : Int64)), .second, iv (0 : Int32), iv ch, .unset] [(.int (42 : Int32)), (.int ch)])) _
      refine XS.icmpNo X29.here hx rfl (hb hby d28_68) rfl (teq hc68).2 ?_
      refine XS.aloadN X29.here hx rfl (hb hby d28_71) rfl rfl ?_
      exact kt
    obtain ⟨T32, X32, e32, st32⟩ := getF X29 hx hZ hown (host := "") (Or.inl (hw _ (List.mem_of_getElem? (i := 142) rfl))) Via.refl hh29 (Fw12.ext E16) (g := (mkF m 72 #[rv r0, rv r1, rv b16, .val (.long (0 : Int64)), .second, .val (.long (0 : Int64)), .second, iv (0 : Int32), iv ch, .unset] [(.ref r0)])) rfl rfl (hb hby d28_72)
    obtain ⟨cl33, Ar33, q33, S33, M33, H33, G33⟩ := id ((V_b10.other W12 (Exa.ne ((Ex10.wr W12).ext E16) f19 (by decide))).ext E16)
    have hin33 : ¬ ((0 : Int32) < 0 ∨ cl33.slots.size ≤ ((0 : Int32)).toNatClampNeg) := inb_of S33 ⟨by decide, by decide⟩
    have hat33 : cl33.slots[((0 : Int32)).toNatClampNeg]? = some (.long (0 : Int64)) := H33.at hin33 rfl
    have pre34 : ∀ t, Steps p.tables e below (T32.setTop (mkF m 90 #[rv r0, rv r1, rv b16, .val (.long (0 : Int64)), .second, .val (.long (0 : Int64)), .second, iv (0 : Int32), iv ch, .unset] [(.long (1 : Int64)), (.int (0 : Int32)), (.ref b10)])) t → Steps p.tables e below (s₁.setTop (entryFrame m #[(.ref r0), (.ref r1)] 10)) t := by
      intro t kt
      refine pre31 _ ?_
      show Steps p.tables e below (T29.setTop (mkF m 72 #[rv r0, rv r1, rv b16, .val (.long (0 : Int64)), .second, .val (.long (0 : Int64)), .second, iv (0 : Int32), iv ch, .unset] [(.ref r0)])) _
      refine st32 _ ?_
      show Steps p.tables e below (T32.setTop (mkF m 75 #[rv r0, rv r1, rv b16, .val (.long (0 : Int64)), .second, .val (.long (0 : Int64)), .second, iv (0 : Int32), iv ch, .unset] [(.ref b10)])) _
      refine XS.iload X32.here hx rfl (hb hby d28_75) rfl ?_
      refine XS.bipush X32.here hx rfl (hb hby d28_77) ?_
      refine XS.idiv X32.here hx rfl (hb hby d28_79) rfl (by decide) ?_
      show Steps p.tables e below (T32.setTop (mkF m 80 #[rv r0, rv r1, rv b16, .val (.long (0 : Int64)), .second, .val (.long (0 : Int64)), .second, iv (0 : Int32), iv ch, .unset] [(.int ((0 : Int32) / (64 : Int32))), (.ref b10)])) _
      rw [show ((0 : Int32) / (64 : Int32)) = (0 : Int32) from (by decide)]
      show Steps p.tables e below (T32.setTop (mkF m 80 #[rv r0, rv r1, rv b16, .val (.long (0 : Int64)), .second, .val (.long (0 : Int64)), .second, iv (0 : Int32), iv ch, .unset] [(.int (0 : Int32)), (.ref b10)])) _
      refine XT.dup2 X32.here hx rfl (hb hby d28_80) rfl rfl rfl ?_
      show Steps p.tables e below (T32.setTop (mkF m 81 #[rv r0, rv r1, rv b16, .val (.long (0 : Int64)), .second, .val (.long (0 : Int64)), .second, iv (0 : Int32), iv ch, .unset] [(.int (0 : Int32)), (.ref b10), (.int (0 : Int32)), (.ref b10)])) _
      refine X32.laload hx (j := (0 : Int32)) (v := (.long (0 : Int64))) (by rw [e32]; exact Ar33.1) (State.isArrayOf_alike hZ.alike Ar33.2.1) Ar33.2.2 hin33 hat33 (g := (mkF m 81 #[rv r0, rv r1, rv b16, .val (.long (0 : Int64)), .second, .val (.long (0 : Int64)), .second, iv (0 : Int32), iv ch, .unset] [(.int (0 : Int32)), (.ref b10), (.int (0 : Int32)), (.ref b10)])) rfl rfl (hb hby d28_81) _ ?_
      show Steps p.tables e below (T32.setTop (mkF m 82 #[rv r0, rv r1, rv b16, .val (.long (0 : Int64)), .second, .val (.long (0 : Int64)), .second, iv (0 : Int32), iv ch, .unset] [(.long (0 : Int64)), (.int (0 : Int32)), (.ref b10)])) _
      refine XS.lconst X32.here hx rfl (hb hby d28_82) ?_
      refine XS.iload X32.here hx rfl (hb hby d28_83) rfl ?_
      refine XS.bipush X32.here hx rfl (hb hby d28_85) ?_
      refine iremM X32 hx rfl (hb hby d28_87) rfl (by decide) ?_
      show Steps p.tables e below (T32.setTop (mkF m 88 #[rv r0, rv r1, rv b16, .val (.long (0 : Int64)), .second, .val (.long (0 : Int64)), .second, iv (0 : Int32), iv ch, .unset] [(.int ((0 : Int32) % (64 : Int32))), (.long (1 : Int64)), (.long (0 : Int64)), (.int (0 : Int32)), (.ref b10)])) _
      rw [show ((0 : Int32) % (64 : Int32)) = (0 : Int32) from (by decide)]
      show Steps p.tables e below (T32.setTop (mkF m 88 #[rv r0, rv r1, rv b16, .val (.long (0 : Int64)), .second, .val (.long (0 : Int64)), .second, iv (0 : Int32), iv ch, .unset] [(.int (0 : Int32)), (.long (1 : Int64)), (.long (0 : Int64)), (.int (0 : Int32)), (.ref b10)])) _
      refine XS.lshl X32.here hx rfl (hb hby d28_88) rfl ?_
      show Steps p.tables e below (T32.setTop (mkF m 89 #[rv r0, rv r1, rv b16, .val (.long (0 : Int64)), .second, .val (.long (0 : Int64)), .second, iv (0 : Int32), iv ch, .unset] [(.long ((1 : Int64) <<< ((0 : Int32) &&& 0x3f).toInt64)), (.long (0 : Int64)), (.int (0 : Int32)), (.ref b10)])) _
      rw [show ((1 : Int64) <<< ((0 : Int32) &&& 0x3f).toInt64) = (1 : Int64) from (by decide)]
      show Steps p.tables e below (T32.setTop (mkF m 89 #[rv r0, rv r1, rv b16, .val (.long (0 : Int64)), .second, .val (.long (0 : Int64)), .second, iv (0 : Int32), iv ch, .unset] [(.long (1 : Int64)), (.long (0 : Int64)), (.int (0 : Int32)), (.ref b10)])) _
      refine XS.lor X32.here hx rfl (hb hby d28_89) rfl ?_
      show Steps p.tables e below (T32.setTop (mkF m 90 #[rv r0, rv r1, rv b16, .val (.long (0 : Int64)), .second, .val (.long (0 : Int64)), .second, iv (0 : Int32), iv ch, .unset] [(.long ((0 : Int64) ||| (1 : Int64))), (.int (0 : Int32)), (.ref b10)])) _
      rw [show ((0 : Int64) ||| (1 : Int64)) = (1 : Int64) from (by decide)]
      exact kt
    obtain ⟨cl35, Ar35, q35, S35, M35, H35, G35⟩ := id ((V_b10.other W12 (Exa.ne ((Ex10.wr W12).ext E16) f19 (by decide))).ext E16)
    have hin35 : ¬ ((0 : Int32) < 0 ∨ cl35.slots.size ≤ ((0 : Int32)).toNatClampNeg) := inb_of S35 ⟨by decide, by decide⟩
    obtain ⟨T35, h35, X35, e35, W35, st35⟩ := stJ X32 hx hZ e32 Ar35 (j := (0 : Int32)) hin35 (g := (mkF m 90 #[rv r0, rv r1, rv b16, .val (.long (0 : Int64)), .second, .val (.long (0 : Int64)), .second, iv (0 : Int32), iv ch, .unset] [(.long (1 : Int64)), (.int (0 : Int32)), (.ref b10)])) rfl rfl (hb hby d28_90)
    have V35 : Arv Z h35 b10 k10 .long (1 : Int32) [(.long (1 : Int64))] (.long (0 : Int64)) := Arv.set Ar35 q35 S35 M35 H35 G35 rfl W35 0 rfl (Nat.le_of_ble_eq_true rfl)
    have K35 : Keep h0 h35 [r0] := K16.wr W35 (Or.inr sz_b10)
    have N35 := Fr.snoc X35 N29 g_b10
    have pre36 : ∀ t, Steps p.tables e below (T35.setTop (mkF m 50 #[rv r0, rv r1, rv b16, .val (.long (0 : Int64)), .second, .val (.long (0 : Int64)), .second, iv (1 : Int32), iv ch, .unset] [(.ref r1), (.int (1 : Int32))])) t → Steps p.tables e below (s₁.setTop (entryFrame m #[(.ref r0), (.ref r1)] 10)) t := by
      intro t kt
      refine pre34 _ ?_
      show Steps p.tables e below (T32.setTop (mkF m 90 #[rv r0, rv r1, rv b16, .val (.long (0 : Int64)), .second, .val (.long (0 : Int64)), .second, iv (0 : Int32), iv ch, .unset] [(.long (1 : Int64)), (.int (0 : Int32)), (.ref b10)])) _
      refine st35 _ ?_
      show Steps p.tables e below (T35.setTop (mkF m 91 #[rv r0, rv r1, rv b16, .val (.long (0 : Int64)), .second, .val (.long (0 : Int64)), .second, iv (0 : Int32), iv ch, .unset] [])) _
      refine XS.goto X35.here hx rfl (pc0 := 91) (pc' := 175) rfl (hb hby d28_91) (by decide) (by decide) ?_
      refine XS.iinc X35.here hx rfl (hb hby d28_175) rfl (l' := #[rv r0, rv r1, rv b16, .val (.long (0 : Int64)), .second, .val (.long (0 : Int64)), .second, iv ((0 : Int32) + (1 : Int32)), iv ch, .unset]) rfl ?_
      show Steps p.tables e below (T35.setTop (mkF m 178 #[rv r0, rv r1, rv b16, .val (.long (0 : Int64)), .second, .val (.long (0 : Int64)), .second, iv ((0 : Int32) + (1 : Int32)), iv ch, .unset] [])) _
      rw [show ((0 : Int32) + (1 : Int32)) = (1 : Int32) from (by decide)]
      show Steps p.tables e below (T35.setTop (mkF m 178 #[rv r0, rv r1, rv b16, .val (.long (0 : Int64)), .second, .val (.long (0 : Int64)), .second, iv (1 : Int32), iv ch, .unset] [])) _
      refine XS.goto X35.here hx rfl (pc0 := 178) (pc' := 47) rfl (hb hby d28_178) (by decide) (by decide) ?_
      refine XS.iload X35.here hx rfl (hb hby d28_47) rfl ?_
      refine XS.aloadN X35.here hx rfl (hb hby d28_49) rfl rfl ?_
      exact kt
    have f37 := (((Ex10.wr W12).ext E16).wr W35)
    obtain ⟨cq38, kq38, q38a, q38b, q38c⟩ := isOf hZ e35 (f24.wr W35)
    obtain ⟨_, _, ⟨T38, L38, k38, n38⟩, -, X38, ⟨Lc38, hQ38, l38, y38, z38⟩, st38⟩ := X35.virtualBack hx (y := (⟨"java/lang/String", "length", "()I"⟩ : MethodName)) (z := (⟨"java/lang/String", "length", "()I"⟩ : MethodName)) hown (mvT hZ (hw _ (List.mem_of_getElem? (i := 138) rfl))) (mvT hZ (hw _ (List.mem_of_getElem? (i := 94) rfl))) (notFace_of_selects (args := #[]) (mvT hZ (hw _ (List.mem_of_getElem? (i := 96) rfl)))) (mvT hZ (hw _ (List.mem_of_getElem? (i := 96) rfl))) (mvT hZ (hw _ (List.mem_of_getElem? (i := 95) rfl))) (by decide) (backOf (W := 1) (rm19 l Z a0 hw [] r1 va kc ch cs h35 n0 (Nat.le_trans Z0 K35.1) (f25.other W35 (Or.inl (Exa.ne (f24.wr W35) f37 (by decide)))) (f26.other W35 (Or.inl (Exa.ne (f24.wr W35) f37 (by decide)))) (f24.wr W35) (f18.other W35 (Nat.ne_of_lt (Nat.lt_of_lt_of_le (V_va.other W6 (Ne.symm (Exa.neArv f19 f18 (hw _ (List.mem_of_getElem? (i := 132) rfl))))).lt (Nat.le_of_eq g10.symm)))) (O0.keep K35 (allS g_r0 all0)) S_cs hcs) hZ (hw _ (List.mem_of_getElem? (i := 97) rfl)) (hw _ (List.mem_of_getElem? (i := 7) rfl)) (by decide) (by decide)) q38a q38c (g := (mkF m 50 #[rv r0, rv r1, rv b16, .val (.long (0 : Int64)), .second, .val (.long (0 : Int64)), .second, iv (1 : Int32), iv ch, .unset] [(.ref r1), (.int (1 : Int32))])) rfl (by rw [hml]; rfl) (Steps.refl _) (argsL := []) (rest := [(.int (1 : Int32))]) (lenOf pd21 rfl) rfl (by show 2 * 0 + _ ≤ _; exact Nat.le_of_eq rfl) (hb hby d28_50) (fun _ _ => ⟨rfl, e35, (by decide : 2 + 0 ≤ _), (by decide : 2 + 0 ≤ _)⟩)
    dsimp only [Pt.U, Pt.locs, Pt.cells, Pt.slots] at X38 l38 y38 z38 st38 hQ38
    subst l38 y38 z38
    obtain ⟨rfl, N38q, hh38⟩ := hQ38
    have N38 := Fr.app N35 N38q
    have pre39 : ∀ t, Steps p.tables e below (T38.setTop (mkF m 183 #[rv r0, rv r1, rv b16, .val (.long (0 : Int64)), .second, .val (.long (0 : Int64)), .second, iv (1 : Int32), iv ch, .unset] [(.long (0 : Int64)), (.ref r0)])) t → Steps p.tables e below (s₁.setTop (entryFrame m #[(.ref r0), (.ref r1)] 10)) t := by
      intro t kt
      refine pre36 _ ?_
      show Steps p.tables e below (T35.setTop (mkF m 50 #[rv r0, rv r1, rv b16, .val (.long (0 : Int64)), .second, .val (.long (0 : Int64)), .second, iv (1 : Int32), iv ch, .unset] [(.ref r1), (.int (1 : Int32))])) _
      refine st38.trans ?_
      show Steps p.tables e below (T38.setTop (mkF m 53 #[rv r0, rv r1, rv b16, .val (.long (0 : Int64)), .second, .val (.long (0 : Int64)), .second, iv (1 : Int32), iv ch, .unset] [(.int (1 : Int32)), (.int (1 : Int32))])) _
      refine XS.icmpYes X38.here hx rfl (pc0 := 53) (pc' := 181) rfl (hb hby d28_53) rfl (flt (by decide)).2.1 (by decide) (by decide) ?_
      refine XS.aloadN X38.here hx rfl (hb hby d28_181) rfl rfl ?_
      refine XS.lloadN X38.here hx rfl (hb hby d28_182) rfl ?_
      exact kt
    obtain ⟨T40, h40, X40, e40, W40, st40⟩ := putF X38 hx hZ hown (host := "") (Or.inl (hw _ (List.mem_of_getElem? (i := 160) rfl))) Via.refl hh38 (f21.other W35 (Or.inl (Exa.ne (f19.wr W35) f37 (by decide)))) (f19.wr W35) (Or.inr ⟨(hw _ (List.mem_of_getElem? (i := 161) rfl)), rfl, hnm⟩) (hw _ (List.mem_of_getElem? (i := 132) rfl)) (ty := .long) (by decide) rfl rfl (g := (mkF m 183 #[rv r0, rv r1, rv b16, .val (.long (0 : Int64)), .second, .val (.long (0 : Int64)), .second, iv (1 : Int32), iv ch, .unset] [(.long (0 : Int64)), (.ref r0)])) rfl rfl (hb hby d28_183)
    have Fw40 : Fld Z h40 r0 "com/example/subject/subject/model/Wildcards$Places" "heldLow" "J" (.long (0 : Int64)) := (f21.other W35 (Or.inl (Exa.ne (f19.wr W35) f37 (by decide)))).same W40
    have K40 : Keep h0 h40 [r0] := K35.wr W40 (Or.inl (List.mem_of_getElem? (i := 0) rfl))
    have N40 := Fr.snoc X40 N38 g_r0
    have pre41 : ∀ t, Steps p.tables e below (T40.setTop (mkF m 189 #[rv r0, rv r1, rv b16, .val (.long (0 : Int64)), .second, .val (.long (0 : Int64)), .second, iv (1 : Int32), iv ch, .unset] [(.long (0 : Int64)), (.ref r0)])) t → Steps p.tables e below (s₁.setTop (entryFrame m #[(.ref r0), (.ref r1)] 10)) t := by
      intro t kt
      refine pre39 _ ?_
      show Steps p.tables e below (T38.setTop (mkF m 183 #[rv r0, rv r1, rv b16, .val (.long (0 : Int64)), .second, .val (.long (0 : Int64)), .second, iv (1 : Int32), iv ch, .unset] [(.long (0 : Int64)), (.ref r0)])) _
      refine st40 _ ?_
      show Steps p.tables e below (T40.setTop (mkF m 186 #[rv r0, rv r1, rv b16, .val (.long (0 : Int64)), .second, .val (.long (0 : Int64)), .second, iv (1 : Int32), iv ch, .unset] [])) _
      refine XS.aloadN X40.here hx rfl (hb hby d28_186) rfl rfl ?_
      refine XS.lload X40.here hx rfl (hb hby d28_187) rfl ?_
      exact kt
    obtain ⟨T42, h42, X42, e42, W42, st42⟩ := putF X40 hx hZ hown (host := "") (Or.inl (hw _ (List.mem_of_getElem? (i := 162) rfl))) Via.refl e40 ((f22.other W35 (Or.inl (Exa.ne ((f19.wr W35).wr W40) (f37.wr W40) (by decide)))).other W40 (Or.inr (slot_ne (Or.inr (hw _ (List.mem_of_getElem? (i := 163) rfl))) (Or.inr (hw _ (List.mem_of_getElem? (i := 161) rfl))) (by decide) (t := .long) (t' := .long) (by decide) (by decide)))) ((f19.wr W35).wr W40) (Or.inr ⟨(hw _ (List.mem_of_getElem? (i := 163) rfl)), rfl, hnm⟩) (hw _ (List.mem_of_getElem? (i := 132) rfl)) (ty := .long) (by decide) rfl rfl (g := (mkF m 189 #[rv r0, rv r1, rv b16, .val (.long (0 : Int64)), .second, .val (.long (0 : Int64)), .second, iv (1 : Int32), iv ch, .unset] [(.long (0 : Int64)), (.ref r0)])) rfl rfl (hb hby d28_189)
    have Fw42 : Fld Z h42 r0 "com/example/subject/subject/model/Wildcards$Places" "heldHigh" "J" (.long (0 : Int64)) := ((f22.other W35 (Or.inl (Exa.ne ((f19.wr W35).wr W40) (f37.wr W40) (by decide)))).other W40 (Or.inr (slot_ne (Or.inr (hw _ (List.mem_of_getElem? (i := 163) rfl))) (Or.inr (hw _ (List.mem_of_getElem? (i := 161) rfl))) (by decide) (t := .long) (t' := .long) (by decide) (by decide)))).same W42
    have K42 : Keep h0 h42 [r0] := K40.wr W42 (Or.inl (List.mem_of_getElem? (i := 0) rfl))
    have N42 := Fr.snoc X42 N40 g_r0
    have pre43 : ∀ t, Steps p.tables e below (T42.setTop (mkF m 194 #[rv r0, rv r1, rv b16, .val (.long (0 : Int64)), .second, .val (.long (0 : Int64)), .second, iv (1 : Int32), iv ch, .unset] [(.long (0 : Int64)), (.int (1 : Int32))])) t → Steps p.tables e below (s₁.setTop (entryFrame m #[(.ref r0), (.ref r1)] 10)) t := by
      intro t kt
      refine pre41 _ ?_
      show Steps p.tables e below (T40.setTop (mkF m 189 #[rv r0, rv r1, rv b16, .val (.long (0 : Int64)), .second, .val (.long (0 : Int64)), .second, iv (1 : Int32), iv ch, .unset] [(.long (0 : Int64)), (.ref r0)])) _
      refine st42 _ ?_
      show Steps p.tables e below (T42.setTop (mkF m 192 #[rv r0, rv r1, rv b16, .val (.long (0 : Int64)), .second, .val (.long (0 : Int64)), .second, iv (1 : Int32), iv ch, .unset] [])) _
      refine XS.iconst X42.here hx rfl (hb hby d28_192) ?_
      refine XS.lloadN X42.here hx rfl (hb hby d28_193) rfl ?_
      exact kt
    have f44 := (((f18.other W35 (Nat.ne_of_lt (Nat.lt_of_lt_of_le (V_va.other W6 (Ne.symm (Exa.neArv f19 f18 (hw _ (List.mem_of_getElem? (i := 132) rfl))))).lt (Nat.le_of_eq g10.symm)))).other W40 (Ne.symm (Exa.neArv f19 f18 (hw _ (List.mem_of_getElem? (i := 132) rfl))))).other W42 (Ne.symm (Exa.neArv f19 f18 (hw _ (List.mem_of_getElem? (i := 132) rfl)))))
    have f45 := (((f19.wr W35).wr W40).wr W42)
    have f46 := (((f20.other W35 (Or.inl (Exa.ne f45 ((f37.wr W40).wr W42) (by decide)))).other W40 (Or.inr (slot_ne (Or.inr (hw _ (List.mem_of_getElem? (i := 140) rfl))) (Or.inr (hw _ (List.mem_of_getElem? (i := 161) rfl))) (by decide) (t := .int) (t' := .long) (by decide) (by decide)))).other W42 (Or.inr (slot_ne (Or.inr (hw _ (List.mem_of_getElem? (i := 140) rfl))) (Or.inr (hw _ (List.mem_of_getElem? (i := 163) rfl))) (by decide) (t := .int) (t' := .long) (by decide) (by decide))))
    have f47 := (((f23.other W35 (Or.inl (Exa.ne f45 ((f37.wr W40).wr W42) (by decide)))).other W40 (Or.inr (slot_ne (Or.inr (hw _ (List.mem_of_getElem? (i := 172) rfl))) (Or.inr (hw _ (List.mem_of_getElem? (i := 161) rfl))) (by decide) (t := (.array .long)) (t' := .long) (by decide) (by decide)))).other W42 (Or.inr (slot_ne (Or.inr (hw _ (List.mem_of_getElem? (i := 172) rfl))) (Or.inr (hw _ (List.mem_of_getElem? (i := 163) rfl))) (by decide) (t := (.array .long)) (t' := .long) (by decide) (by decide))))
    have f48 := ((((Fw12.ext E16).other W35 (Or.inl (Exa.ne f45 ((f37.wr W40).wr W42) (by decide)))).other W40 (Or.inr (slot_ne (Or.inr (hw _ (List.mem_of_getElem? (i := 143) rfl))) (Or.inr (hw _ (List.mem_of_getElem? (i := 161) rfl))) (by decide) (t := (.array .long)) (t' := .long) (by decide) (by decide)))).other W42 (Or.inr (slot_ne (Or.inr (hw _ (List.mem_of_getElem? (i := 143) rfl))) (Or.inr (hw _ (List.mem_of_getElem? (i := 163) rfl))) (by decide) (t := (.array .long)) (t' := .long) (by decide) (by decide))))
    have f49 := (((f24.wr W35).wr W40).wr W42)
    have f50 := (((f25.other W35 (Or.inl (Exa.ne f49 ((f37.wr W40).wr W42) (by decide)))).other W40 (Or.inl (Exa.ne f49 f45 (by decide)))).other W42 (Or.inl (Exa.ne f49 f45 (by decide))))
    have f51 := (((f26.other W35 (Or.inl (Exa.ne f49 ((f37.wr W40).wr W42) (by decide)))).other W40 (Or.inl (Exa.ne f49 f45 (by decide)))).other W42 (Or.inl (Exa.ne f49 f45 (by decide))))
    have f52 := (((V_b16.other W35 (Ne.symm (Nat.ne_of_lt (Nat.lt_of_lt_of_le (Ex10.wr W12).lt (Nat.le_of_eq g16.symm))))).other W40 (Exa.ne (((Ex16.wr W35).wr W40).wr W42) f45 (by decide))).other W42 (Exa.ne (((Ex16.wr W35).wr W40).wr W42) f45 (by decide)))
    have f53 := (((Ex16.wr W35).wr W40).wr W42)
    obtain ⟨_, _, ⟨T54, L54, k54, n54⟩, -, X54, ⟨Lc54, hQ54, l54, y54, z54⟩, st54⟩ := Jvm.LawKit.callS X42 hx (y := (⟨"java/lang/Long", "bitCount", "(J)I"⟩ : MethodName)) hown (mvT hZ (hw _ (List.mem_of_getElem? (i := 164) rfl))) (mvT hZ (hw _ (List.mem_of_getElem? (i := 165) rfl))) (mvT hZ (hw _ (List.mem_of_getElem? (i := 166) rfl))) (mvT hZ (hw _ (List.mem_of_getElem? (i := 167) rfl))) (by decide) (backOf (W := 1) (rm33 l Z a0 hw [] (0 : Int64) (0 : Int32) h42 n0 (Nat.le_trans Z0 K42.1) (by decide +kernel)) hZ (hw _ (List.mem_of_getElem? (i := 167) rfl)) (hw _ (List.mem_of_getElem? (i := 166) rfl)) (by decide) (by decide)) (g := (mkF m 194 #[rv r0, rv r1, rv b16, .val (.long (0 : Int64)), .second, .val (.long (0 : Int64)), .second, iv (1 : Int32), iv ch, .unset] [(.long (0 : Int64)), (.int (1 : Int32))])) rfl (by rw [hml]; rfl) (argsL := [(.long (0 : Int64))]) (rest := [(.int (1 : Int32))]) (lenOf pd25 rfl) rfl (by show 2 * 0 + _ ≤ _; exact Nat.le_of_eq rfl) (hb hby d28_194) (fun _ _ => ⟨rfl, e42, (by decide : 2 + 0 ≤ _), (by decide : 2 + 0 ≤ _)⟩)
    dsimp only [Pt.U, Pt.locs, Pt.cells, Pt.slots] at X54 l54 y54 z54 st54 hQ54
    subst l54 y54 z54
    obtain ⟨rfl, N54q, hh54⟩ := hQ54
    have N54 := Fr.app N42 N54q
    have pre55 : ∀ t, Steps p.tables e below (T54.setTop (mkF m 200 #[rv r0, rv r1, rv b16, .val (.long (0 : Int64)), .second, .val (.long (0 : Int64)), .second, iv (1 : Int32), iv ch, .unset] [(.long (0 : Int64)), (.int (1 : Int32))])) t → Steps p.tables e below (s₁.setTop (entryFrame m #[(.ref r0), (.ref r1)] 10)) t := by
      intro t kt
      refine pre43 _ ?_
      show Steps p.tables e below (T42.setTop (mkF m 194 #[rv r0, rv r1, rv b16, .val (.long (0 : Int64)), .second, .val (.long (0 : Int64)), .second, iv (1 : Int32), iv ch, .unset] [(.long (0 : Int64)), (.int (1 : Int32))])) _
      refine st54 _ ?_
      show Steps p.tables e below (T54.setTop (mkF m 197 #[rv r0, rv r1, rv b16, .val (.long (0 : Int64)), .second, .val (.long (0 : Int64)), .second, iv (1 : Int32), iv ch, .unset] [(.int (0 : Int32)), (.int (1 : Int32))])) _
      refine XS.iadd X54.here hx rfl (hb hby d28_197) rfl ?_
      show Steps p.tables e below (T54.setTop (mkF m 198 #[rv r0, rv r1, rv b16, .val (.long (0 : Int64)), .second, .val (.long (0 : Int64)), .second, iv (1 : Int32), iv ch, .unset] [(.int ((1 : Int32) + (0 : Int32)))])) _
      rw [show ((1 : Int32) + (0 : Int32)) = (1 : Int32) from (by decide)]
      show Steps p.tables e below (T54.setTop (mkF m 198 #[rv r0, rv r1, rv b16, .val (.long (0 : Int64)), .second, .val (.long (0 : Int64)), .second, iv (1 : Int32), iv ch, .unset] [(.int (1 : Int32))])) _
      refine XS.lload X54.here hx rfl (hb hby d28_198) rfl ?_
      exact kt
    obtain ⟨_, _, ⟨T56, L56, k56, n56⟩, -, X56, ⟨Lc56, hQ56, l56, y56, z56⟩, st56⟩ := Jvm.LawKit.callS X54 hx (y := (⟨"java/lang/Long", "bitCount", "(J)I"⟩ : MethodName)) hown (mvT hZ (hw _ (List.mem_of_getElem? (i := 164) rfl))) (mvT hZ (hw _ (List.mem_of_getElem? (i := 165) rfl))) (mvT hZ (hw _ (List.mem_of_getElem? (i := 166) rfl))) (mvT hZ (hw _ (List.mem_of_getElem? (i := 167) rfl))) (by decide) (backOf (W := 1) (rm33 l Z a0 hw [] (0 : Int64) (0 : Int32) h42 n0 (Nat.le_trans Z0 K42.1) (by decide +kernel)) hZ (hw _ (List.mem_of_getElem? (i := 167) rfl)) (hw _ (List.mem_of_getElem? (i := 166) rfl)) (by decide) (by decide)) (g := (mkF m 200 #[rv r0, rv r1, rv b16, .val (.long (0 : Int64)), .second, .val (.long (0 : Int64)), .second, iv (1 : Int32), iv ch, .unset] [(.long (0 : Int64)), (.int (1 : Int32))])) rfl (by rw [hml]; rfl) (argsL := [(.long (0 : Int64))]) (rest := [(.int (1 : Int32))]) (lenOf pd25 rfl) rfl (by show 2 * 0 + _ ≤ _; exact Nat.le_of_eq rfl) (hb hby d28_200) (fun _ _ => ⟨rfl, hh54, (by decide : 2 + 0 ≤ _), (by decide : 2 + 0 ≤ _)⟩)
    dsimp only [Pt.U, Pt.locs, Pt.cells, Pt.slots] at X56 l56 y56 z56 st56 hQ56
    subst l56 y56 z56
    obtain ⟨rfl, N56q, hh56⟩ := hQ56
    have N56 := Fr.app N54 N56q
    have pre57 : ∀ t, Steps p.tables e below (T56.setTop (mkF m 210 #[rv r0, rv r1, rv b16, .val (.long (0 : Int64)), .second, .val (.long (0 : Int64)), .second, iv (1 : Int32), iv ch, .unset] [(.ref r0), (.int (1 : Int32)), (.ref r0)])) t → Steps p.tables e below (s₁.setTop (entryFrame m #[(.ref r0), (.ref r1)] 10)) t := by
      intro t kt
      refine pre55 _ ?_
      show Steps p.tables e below (T54.setTop (mkF m 200 #[rv r0, rv r1, rv b16, .val (.long (0 : Int64)), .second, .val (.long (0 : Int64)), .second, iv (1 : Int32), iv ch, .unset] [(.long (0 : Int64)), (.int (1 : Int32))])) _
      refine st56 _ ?_
      show Steps p.tables e below (T56.setTop (mkF m 203 #[rv r0, rv r1, rv b16, .val (.long (0 : Int64)), .second, .val (.long (0 : Int64)), .second, iv (1 : Int32), iv ch, .unset] [(.int (0 : Int32)), (.int (1 : Int32))])) _
      refine XS.iadd X56.here hx rfl (hb hby d28_203) rfl ?_
      show Steps p.tables e below (T56.setTop (mkF m 204 #[rv r0, rv r1, rv b16, .val (.long (0 : Int64)), .second, .val (.long (0 : Int64)), .second, iv (1 : Int32), iv ch, .unset] [(.int ((1 : Int32) + (0 : Int32)))])) _
      rw [show ((1 : Int32) + (0 : Int32)) = (1 : Int32) from (by decide)]
      show Steps p.tables e below (T56.setTop (mkF m 204 #[rv r0, rv r1, rv b16, .val (.long (0 : Int64)), .second, .val (.long (0 : Int64)), .second, iv (1 : Int32), iv ch, .unset] [(.int (1 : Int32))])) _
      refine XS.istore X56.here hx rfl (hb hby d28_204) rfl (l' := #[rv r0, rv r1, rv b16, .val (.long (0 : Int64)), .second, .val (.long (0 : Int64)), .second, iv (1 : Int32), iv ch, .unset]) rfl ?_
      refine XS.aloadN X56.here hx rfl (hb hby d28_206) rfl rfl ?_
      refine XS.iload X56.here hx rfl (hb hby d28_207) rfl ?_
      refine XS.aloadN X56.here hx rfl (hb hby d28_209) rfl rfl ?_
      exact kt
    obtain ⟨T58, X58, e58, st58⟩ := getF X56 hx hZ hown (host := "") (Or.inl (hw _ (List.mem_of_getElem? (i := 139) rfl))) Via.refl hh56 f46 (g := (mkF m 210 #[rv r0, rv r1, rv b16, .val (.long (0 : Int64)), .second, .val (.long (0 : Int64)), .second, iv (1 : Int32), iv ch, .unset] [(.ref r0), (.int (1 : Int32)), (.ref r0)])) rfl rfl (hb hby d28_210)
    have pre59 : ∀ t, Steps p.tables e below (T58.setTop (mkF m 214 #[rv r0, rv r1, rv b16, .val (.long (0 : Int64)), .second, .val (.long (0 : Int64)), .second, iv (1 : Int32), iv ch, .unset] [(.int (1 : Int32)), (.ref r0)])) t → Steps p.tables e below (s₁.setTop (entryFrame m #[(.ref r0), (.ref r1)] 10)) t := by
      intro t kt
      refine pre57 _ ?_
      show Steps p.tables e below (T56.setTop (mkF m 210 #[rv r0, rv r1, rv b16, .val (.long (0 : Int64)), .second, .val (.long (0 : Int64)), .second, iv (1 : Int32), iv ch, .unset] [(.ref r0), (.int (1 : Int32)), (.ref r0)])) _
      refine st58 _ ?_
      show Steps p.tables e below (T58.setTop (mkF m 213 #[rv r0, rv r1, rv b16, .val (.long (0 : Int64)), .second, .val (.long (0 : Int64)), .second, iv (1 : Int32), iv ch, .unset] [(.int (1 : Int32)), (.int (1 : Int32)), (.ref r0)])) _
      refine XS.imul X58.here hx rfl (hb hby d28_213) rfl ?_
      show Steps p.tables e below (T58.setTop (mkF m 214 #[rv r0, rv r1, rv b16, .val (.long (0 : Int64)), .second, .val (.long (0 : Int64)), .second, iv (1 : Int32), iv ch, .unset] [(.int ((1 : Int32) * (1 : Int32))), (.ref r0)])) _
      rw [show ((1 : Int32) * (1 : Int32)) = (1 : Int32) from (by decide)]
      exact kt
    obtain ⟨T60, h60, k60, X60, e60, E60, A60, Ex60, st60⟩ := newPE X58 hx hZ (hw _ (List.mem_of_getElem? (i := 141) rfl)) e58 (g := (mkF m 214 #[rv r0, rv r1, rv b16, .val (.long (0 : Int64)), .second, .val (.long (0 : Int64)), .second, iv (1 : Int32), iv ch, .unset] [(.int (1 : Int32)), (.ref r0)])) rfl (hb hby d28_214) rfl (by decide) (cap := 1) (by decide) (by decide) (by decide) (by decide) (ad := "[J") rfl
    obtain ⟨b60, g60⟩ : ∃ z, z = h42.size := ⟨_, rfl⟩
    rw [← g60] at A60 Ex60 st60
    have g_b60 : n0 ≤ b60 := Nat.le_trans (Nat.le_trans Z0 K42.1) (Nat.le_of_eq g60.symm)
    have sz_b60 : h0.size ≤ b60 := Nat.le_trans K42.1 (Nat.le_of_eq g60.symm)
    have V_b60 : Arv Z h60 b60 k60 .long (1 : Int32) [(.long (0 : Int64))] (.long (0 : Int64)) := (Arv.new A60 (by decide)).pad (pad_rep [] (.long (0 : Int64)) 1)
    have K60 : Keep h0 h60 [r0] := K42.ext E60
    have pre61 : ∀ t, Steps p.tables e below (T60.setTop (mkF m 216 #[rv r0, rv r1, rv b16, .val (.long (0 : Int64)), .second, .val (.long (0 : Int64)), .second, iv (1 : Int32), iv ch, .unset] [(.ref b60), (.ref r0)])) t → Steps p.tables e below (s₁.setTop (entryFrame m #[(.ref r0), (.ref r1)] 10)) t := by
      intro t kt
      refine pre59 _ ?_
      show Steps p.tables e below (T58.setTop (mkF m 214 #[rv r0, rv r1, rv b16, .val (.long (0 : Int64)), .second, .val (.long (0 : Int64)), .second, iv (1 : Int32), iv ch, .unset] [(.int (1 : Int32)), (.ref r0)])) _
      refine st60 _ ?_
      exact kt
    obtain ⟨T62, h62, X62, e62, W62, st62⟩ := putF X60 hx hZ hown (host := "") (Or.inl (hw _ (List.mem_of_getElem? (i := 171) rfl))) Via.refl e60 (f47.ext E60) (f45.ext E60) (Or.inr ⟨(hw _ (List.mem_of_getElem? (i := 172) rfl)), rfl, hnm⟩) (hw _ (List.mem_of_getElem? (i := 132) rfl)) (ty := (.array .long)) (by decide) rfl rfl (g := (mkF m 216 #[rv r0, rv r1, rv b16, .val (.long (0 : Int64)), .second, .val (.long (0 : Int64)), .second, iv (1 : Int32), iv ch, .unset] [(.ref b60), (.ref r0)])) rfl rfl (hb hby d28_216)
    have Fw62 : Fld Z h62 r0 "com/example/subject/subject/model/Wildcards$Places" "fits" "[J" (.ref b60) := (f47.ext E60).same W62
    have K62 : Keep h0 h62 [r0] := K60.wr W62 (Or.inl (List.mem_of_getElem? (i := 0) rfl))
    have N62 := Fr.snoc X62 N56 g_r0
    have pre63 : ∀ t, Steps p.tables e below (T62.setTop (mkF m 232 #[rv r0, rv r1, rv b16, .val (.long (0 : Int64)), .second, .val (.long (0 : Int64)), .second, iv (1 : Int32), iv (0 : Int32), .unset] [(.ref r0), (.int (0 : Int32)), (.ref b16)])) t → Steps p.tables e below (s₁.setTop (entryFrame m #[(.ref r0), (.ref r1)] 10)) t := by
      intro t kt
      refine pre61 _ ?_
      show Steps p.tables e below (T60.setTop (mkF m 216 #[rv r0, rv r1, rv b16, .val (.long (0 : Int64)), .second, .val (.long (0 : Int64)), .second, iv (1 : Int32), iv ch, .unset] [(.ref b60), (.ref r0)])) _
      refine st62 _ ?_
      show Steps p.tables e below (T62.setTop (mkF m 219 #[rv r0, rv r1, rv b16, .val (.long (0 : Int64)), .second, .val (.long (0 : Int64)), .second, iv (1 : Int32), iv ch, .unset] [])) _
      refine XS.iconst X62.here hx rfl (hb hby d28_219) ?_
      refine XS.istore X62.here hx rfl (hb hby d28_220) rfl (l' := #[rv r0, rv r1, rv b16, .val (.long (0 : Int64)), .second, .val (.long (0 : Int64)), .second, iv (1 : Int32), iv (0 : Int32), .unset]) rfl ?_
      refine XS.iload X62.here hx rfl (hb hby d28_222) rfl ?_
      refine XS.iload X62.here hx rfl (hb hby d28_224) rfl ?_
      refine XS.icmpNo X62.here hx rfl (hb hby d28_226) rfl (tlt (by decide)).2.1 ?_
      refine XS.aloadN X62.here hx rfl (hb hby d28_229) rfl rfl ?_
      refine XS.iconst X62.here hx rfl (hb hby d28_230) ?_
      refine XS.aloadN X62.here hx rfl (hb hby d28_231) rfl rfl ?_
      exact kt
    obtain ⟨T64, X64, e64, st64⟩ := getF X62 hx hZ hown (host := "") (Or.inl (hw _ (List.mem_of_getElem? (i := 171) rfl))) Via.refl e62 Fw62 (g := (mkF m 232 #[rv r0, rv r1, rv b16, .val (.long (0 : Int64)), .second, .val (.long (0 : Int64)), .second, iv (1 : Int32), iv (0 : Int32), .unset] [(.ref r0), (.int (0 : Int32)), (.ref b16)])) rfl rfl (hb hby d28_232)
    have pre65 : ∀ t, Steps p.tables e below (T64.setTop (mkF m 238 #[rv r0, rv r1, rv b16, .val (.long (0 : Int64)), .second, .val (.long (0 : Int64)), .second, iv (1 : Int32), iv (0 : Int32), .unset] [(.ref r0), (.int (0 : Int32)), (.ref b60), (.int (0 : Int32)), (.ref b16)])) t → Steps p.tables e below (s₁.setTop (entryFrame m #[(.ref r0), (.ref r1)] 10)) t := by
      intro t kt
      refine pre63 _ ?_
      show Steps p.tables e below (T62.setTop (mkF m 232 #[rv r0, rv r1, rv b16, .val (.long (0 : Int64)), .second, .val (.long (0 : Int64)), .second, iv (1 : Int32), iv (0 : Int32), .unset] [(.ref r0), (.int (0 : Int32)), (.ref b16)])) _
      refine st64 _ ?_
      show Steps p.tables e below (T64.setTop (mkF m 235 #[rv r0, rv r1, rv b16, .val (.long (0 : Int64)), .second, .val (.long (0 : Int64)), .second, iv (1 : Int32), iv (0 : Int32), .unset] [(.ref b60), (.int (0 : Int32)), (.ref b16)])) _
      refine XS.iload X64.here hx rfl (hb hby d28_235) rfl ?_
      refine XS.aloadN X64.here hx rfl (hb hby d28_237) rfl rfl ?_
      exact kt
    obtain ⟨T66, X66, e66, st66⟩ := getF X64 hx hZ hown (host := "") (Or.inl (hw _ (List.mem_of_getElem? (i := 139) rfl))) Via.refl e64 ((f46.ext E60).other W62 (Or.inr (slot_ne (Or.inr (hw _ (List.mem_of_getElem? (i := 140) rfl))) (Or.inr (hw _ (List.mem_of_getElem? (i := 172) rfl))) (by decide) (t := .int) (t' := (.array .long)) (by decide) (by decide)))) (g := (mkF m 238 #[rv r0, rv r1, rv b16, .val (.long (0 : Int64)), .second, .val (.long (0 : Int64)), .second, iv (1 : Int32), iv (0 : Int32), .unset] [(.ref r0), (.int (0 : Int32)), (.ref b60), (.int (0 : Int32)), (.ref b16)])) rfl rfl (hb hby d28_238)
    have pre67 : ∀ t, Steps p.tables e below (T66.setTop (mkF m 243 #[rv r0, rv r1, rv b16, .val (.long (0 : Int64)), .second, .val (.long (0 : Int64)), .second, iv (1 : Int32), iv (0 : Int32), .unset] [(.ref r0), (.int (0 : Int32)), (.ref b60), (.int (0 : Int32)), (.ref b16)])) t → Steps p.tables e below (s₁.setTop (entryFrame m #[(.ref r0), (.ref r1)] 10)) t := by
      intro t kt
      refine pre65 _ ?_
      show Steps p.tables e below (T64.setTop (mkF m 238 #[rv r0, rv r1, rv b16, .val (.long (0 : Int64)), .second, .val (.long (0 : Int64)), .second, iv (1 : Int32), iv (0 : Int32), .unset] [(.ref r0), (.int (0 : Int32)), (.ref b60), (.int (0 : Int32)), (.ref b16)])) _
      refine st66 _ ?_
      show Steps p.tables e below (T66.setTop (mkF m 241 #[rv r0, rv r1, rv b16, .val (.long (0 : Int64)), .second, .val (.long (0 : Int64)), .second, iv (1 : Int32), iv (0 : Int32), .unset] [(.int (1 : Int32)), (.int (0 : Int32)), (.ref b60), (.int (0 : Int32)), (.ref b16)])) _
      refine XS.imul X66.here hx rfl (hb hby d28_241) rfl ?_
      show Steps p.tables e below (T66.setTop (mkF m 242 #[rv r0, rv r1, rv b16, .val (.long (0 : Int64)), .second, .val (.long (0 : Int64)), .second, iv (1 : Int32), iv (0 : Int32), .unset] [(.int ((0 : Int32) * (1 : Int32))), (.ref b60), (.int (0 : Int32)), (.ref b16)])) _
      rw [show ((0 : Int32) * (1 : Int32)) = (0 : Int32) from (by decide)]
      show Steps p.tables e below (T66.setTop (mkF m 242 #[rv r0, rv r1, rv b16, .val (.long (0 : Int64)), .second, .val (.long (0 : Int64)), .second, iv (1 : Int32), iv (0 : Int32), .unset] [(.int (0 : Int32)), (.ref b60), (.int (0 : Int32)), (.ref b16)])) _
      refine XS.aloadN X66.here hx rfl (hb hby d28_242) rfl rfl ?_
      exact kt
    obtain ⟨T68, X68, e68, st68⟩ := getF X66 hx hZ hown (host := "") (Or.inl (hw _ (List.mem_of_getElem? (i := 139) rfl))) Via.refl e66 ((f46.ext E60).other W62 (Or.inr (slot_ne (Or.inr (hw _ (List.mem_of_getElem? (i := 140) rfl))) (Or.inr (hw _ (List.mem_of_getElem? (i := 172) rfl))) (by decide) (t := .int) (t' := (.array .long)) (by decide) (by decide)))) (g := (mkF m 243 #[rv r0, rv r1, rv b16, .val (.long (0 : Int64)), .second, .val (.long (0 : Int64)), .second, iv (1 : Int32), iv (0 : Int32), .unset] [(.ref r0), (.int (0 : Int32)), (.ref b60), (.int (0 : Int32)), (.ref b16)])) rfl rfl (hb hby d28_243)
    have pre69 : ∀ t, Steps p.tables e below (T68.setTop (mkF m 246 #[rv r0, rv r1, rv b16, .val (.long (0 : Int64)), .second, .val (.long (0 : Int64)), .second, iv (1 : Int32), iv (0 : Int32), .unset] [(.int (1 : Int32)), (.int (0 : Int32)), (.ref b60), (.int (0 : Int32)), (.ref b16)])) t → Steps p.tables e below (s₁.setTop (entryFrame m #[(.ref r0), (.ref r1)] 10)) t := by
      intro t kt
      refine pre67 _ ?_
      show Steps p.tables e below (T66.setTop (mkF m 243 #[rv r0, rv r1, rv b16, .val (.long (0 : Int64)), .second, .val (.long (0 : Int64)), .second, iv (1 : Int32), iv (0 : Int32), .unset] [(.ref r0), (.int (0 : Int32)), (.ref b60), (.int (0 : Int32)), (.ref b16)])) _
      refine st68 _ ?_
      exact kt
    have f70 := (((Fw40.other W42 (Or.inr (slot_ne (Or.inr (hw _ (List.mem_of_getElem? (i := 161) rfl))) (Or.inr (hw _ (List.mem_of_getElem? (i := 163) rfl))) (by decide) (t := .long) (t' := .long) (by decide) (by decide)))).ext E60).other W62 (Or.inr (slot_ne (Or.inr (hw _ (List.mem_of_getElem? (i := 161) rfl))) (Or.inr (hw _ (List.mem_of_getElem? (i := 172) rfl))) (by decide) (t := .long) (t' := (.array .long)) (by decide) (by decide))))
    have f71 := ((((V35.other W40 (Exa.ne ((((f37.wr W40).wr W42).ext E60).wr W62) ((f45.ext E60).wr W62) (by decide))).other W42 (Exa.ne ((((f37.wr W40).wr W42).ext E60).wr W62) ((f45.ext E60).wr W62) (by decide))).ext E60).other W62 (Exa.ne ((((f37.wr W40).wr W42).ext E60).wr W62) ((f45.ext E60).wr W62) (by decide)))
    have f72 := ((((f37.wr W40).wr W42).ext E60).wr W62)
    obtain ⟨T73, h73, L73, X73, e73, N73, Kc73, Vc73, st73⟩ := cpA X68 hx hZ hown (hw _ (List.mem_of_getElem? (i := 173) rfl)) (hw _ (List.mem_of_getElem? (i := 176) rfl)) (hw _ (List.mem_of_getElem? (i := 174) rfl)) (hw _ (List.mem_of_getElem? (i := 175) rfl)) e68 ((f52.ext E60).other W62 (Exa.ne ((f53.ext E60).wr W62) ((f45.ext E60).wr W62) (by decide))) (V_b60.other W62 (Exa.ne (Ex60.wr W62) ((f45.ext E60).wr W62) (by decide))) (Or.inl ⟨rfl, rfl⟩) (by decide) (by decide) (by decide) (by decide) (by decide) rfl (by decide) N62 g_b60 (g := (mkF m 246 #[rv r0, rv r1, rv b16, .val (.long (0 : Int64)), .second, .val (.long (0 : Int64)), .second, iv (1 : Int32), iv (0 : Int32), .unset] [(.int (1 : Int32)), (.int (0 : Int32)), (.ref b60), (.int (0 : Int32)), (.ref b16)])) rfl (by rw [hml]; rfl) rfl (hb hby d28_246) (by decide) (W := 0) (by show 2 * 0 + _ ≤ _; exact Nat.le_of_eq rfl) (by decide)
    have K73 : Keep h0 h73 [r0] := K62.trans Kc73 (allS (Or.inr sz_b60) all0)
    have V73 : Arv Z h73 b60 k60 .long (1 : Int32) [(.long (0 : Int64))] (.long (0 : Int64)) := Vc73
    have pre74 : ∀ t, Steps p.tables e below (T73.setTop (mkF m 261 #[rv r0, rv r1, rv b16, .val (.long (0 : Int64)), .second, .val (.long (0 : Int64)), .second, iv (1 : Int32), iv (0 : Int32), .unset] [(.ref r1), (.int (0 : Int32))])) t → Steps p.tables e below (s₁.setTop (entryFrame m #[(.ref r0), (.ref r1)] 10)) t := by
      intro t kt
      refine pre69 _ ?_
      show Steps p.tables e below (T68.setTop (mkF m 246 #[rv r0, rv r1, rv b16, .val (.long (0 : Int64)), .second, .val (.long (0 : Int64)), .second, iv (1 : Int32), iv (0 : Int32), .unset] [(.int (1 : Int32)), (.int (0 : Int32)), (.ref b60), (.int (0 : Int32)), (.ref b16)])) _
      refine st73 _ ?_
      show Steps p.tables e below (T73.setTop (mkF m 249 #[rv r0, rv r1, rv b16, .val (.long (0 : Int64)), .second, .val (.long (0 : Int64)), .second, iv (1 : Int32), iv (0 : Int32), .unset] [])) _
      refine XS.iinc X73.here hx rfl (hb hby d28_249) rfl (l' := #[rv r0, rv r1, rv b16, .val (.long (0 : Int64)), .second, .val (.long (0 : Int64)), .second, iv (1 : Int32), iv ((0 : Int32) + (1 : Int32)), .unset]) rfl ?_
      show Steps p.tables e below (T73.setTop (mkF m 252 #[rv r0, rv r1, rv b16, .val (.long (0 : Int64)), .second, .val (.long (0 : Int64)), .second, iv (1 : Int32), iv ((0 : Int32) + (1 : Int32)), .unset] [])) _
      rw [show ((0 : Int32) + (1 : Int32)) = (1 : Int32) from (by decide)]
      show Steps p.tables e below (T73.setTop (mkF m 252 #[rv r0, rv r1, rv b16, .val (.long (0 : Int64)), .second, .val (.long (0 : Int64)), .second, iv (1 : Int32), iv (1 : Int32), .unset] [])) _
      refine XS.goto X73.here hx rfl (pc0 := 252) (pc' := 222) rfl (hb hby d28_252) (by decide) (by decide) ?_
      refine XS.iload X73.here hx rfl (hb hby d28_222) rfl ?_
      refine XS.iload X73.here hx rfl (hb hby d28_224) rfl ?_
      refine XS.icmpYes X73.here hx rfl (pc0 := 226) (pc' := 255) rfl (hb hby d28_226) rfl (flt (by decide)).2.1 (by decide) (by decide) ?_
      refine XS.iconst X73.here hx rfl (hb hby d28_255) ?_
      refine XS.istore X73.here hx rfl (hb hby d28_256) rfl (l' := #[rv r0, rv r1, rv b16, .val (.long (0 : Int64)), .second, .val (.long (0 : Int64)), .second, iv (1 : Int32), iv (0 : Int32), .unset]) rfl ?_
      refine XS.iload X73.here hx rfl (hb hby d28_258) rfl ?_
      refine XS.aloadN X73.here hx rfl (hb hby d28_260) rfl rfl ?_
      exact kt
    have f75 := (((f44.ext E60).other W62 (Ne.symm (Exa.neArv f45 f44 (hw _ (List.mem_of_getElem? (i := 132) rfl))))).keep Kc73 (ninS (Nat.ne_of_lt (Nat.lt_of_lt_of_le f44.lt (Nat.le_of_eq g60.symm))) nin0))
    have f76 := (((f45.ext E60).wr W62).keep Kc73)
    have f77 := (((f46.ext E60).other W62 (Or.inr (slot_ne (Or.inr (hw _ (List.mem_of_getElem? (i := 140) rfl))) (Or.inr (hw _ (List.mem_of_getElem? (i := 172) rfl))) (by decide) (t := .int) (t' := (.array .long)) (by decide) (by decide)))).keep Kc73 (ninS (Exa.ne f76 ((Ex60.wr W62).keep Kc73) (by decide)) nin0))
    have f78 := (((Fw42.ext E60).other W62 (Or.inr (slot_ne (Or.inr (hw _ (List.mem_of_getElem? (i := 163) rfl))) (Or.inr (hw _ (List.mem_of_getElem? (i := 172) rfl))) (by decide) (t := .long) (t' := (.array .long)) (by decide) (by decide)))).keep Kc73 (ninS (Exa.ne f76 ((Ex60.wr W62).keep Kc73) (by decide)) nin0))
    have f79 := (((f48.ext E60).other W62 (Or.inr (slot_ne (Or.inr (hw _ (List.mem_of_getElem? (i := 143) rfl))) (Or.inr (hw _ (List.mem_of_getElem? (i := 172) rfl))) (by decide) (t := (.array .long)) (t' := (.array .long)) (by decide) (by decide)))).keep Kc73 (ninS (Exa.ne f76 ((Ex60.wr W62).keep Kc73) (by decide)) nin0))
    have f80 := (((f49.ext E60).wr W62).keep Kc73)
    have f81 := (((f50.ext E60).other W62 (Or.inl (Exa.ne f80 f76 (by decide)))).keep Kc73 (ninS (Exa.ne f80 ((Ex60.wr W62).keep Kc73) (by decide)) nin0))
    have f82 := (((f51.ext E60).other W62 (Or.inl (Exa.ne f80 f76 (by decide)))).keep Kc73 (ninS (Exa.ne f80 ((Ex60.wr W62).keep Kc73) (by decide)) nin0))
    have f83 := (((f52.ext E60).other W62 (Exa.ne (((f53.ext E60).wr W62).keep Kc73) f76 (by decide))).keep Kc73 (ninS (Nat.ne_of_lt (Nat.lt_of_lt_of_le f52.lt (Nat.le_of_eq g60.symm))) nin0))
    have f84 := (((f53.ext E60).wr W62).keep Kc73)
    obtain ⟨cq85, kq85, q85a, q85b, q85c⟩ := isOf hZ e73 f80
    obtain ⟨_, _, ⟨T85, L85, k85, n85⟩, -, X85, ⟨Lc85, hQ85, l85, y85, z85⟩, st85⟩ := X73.virtualBack hx (y := (⟨"java/lang/String", "length", "()I"⟩ : MethodName)) (z := (⟨"java/lang/String", "length", "()I"⟩ : MethodName)) hown (mvT hZ (hw _ (List.mem_of_getElem? (i := 138) rfl))) (mvT hZ (hw _ (List.mem_of_getElem? (i := 94) rfl))) (notFace_of_selects (args := #[]) (mvT hZ (hw _ (List.mem_of_getElem? (i := 96) rfl)))) (mvT hZ (hw _ (List.mem_of_getElem? (i := 96) rfl))) (mvT hZ (hw _ (List.mem_of_getElem? (i := 95) rfl))) (by decide) (backOf (W := 1) (rm19 l Z a0 hw [] r1 va kc ch cs h73 n0 (Nat.le_trans Z0 K73.1) f81 f82 f80 f75 (O0.keep K73 (allS g_r0 all0)) S_cs hcs) hZ (hw _ (List.mem_of_getElem? (i := 97) rfl)) (hw _ (List.mem_of_getElem? (i := 7) rfl)) (by decide) (by decide)) q85a q85c (g := (mkF m 261 #[rv r0, rv r1, rv b16, .val (.long (0 : Int64)), .second, .val (.long (0 : Int64)), .second, iv (1 : Int32), iv (0 : Int32), .unset] [(.ref r1), (.int (0 : Int32))])) rfl (by rw [hml]; rfl) (Steps.refl _) (argsL := []) (rest := [(.int (0 : Int32))]) (lenOf pd21 rfl) rfl (by show 2 * 0 + _ ≤ _; exact Nat.le_of_eq rfl) (hb hby d28_261) (fun _ _ => ⟨rfl, e73, (by decide : 3 + 0 ≤ _), (by decide : 3 + 0 ≤ _)⟩)
    dsimp only [Pt.U, Pt.locs, Pt.cells, Pt.slots] at X85 l85 y85 z85 st85 hQ85
    subst l85 y85 z85
    obtain ⟨rfl, N85q, hh85⟩ := hQ85
    have N85 := Fr.app N73 N85q
    have pre86 : ∀ t, Steps p.tables e below (T85.setTop (mkF m 270 #[rv r0, rv r1, rv b16, .val (.long (0 : Int64)), .second, .val (.long (0 : Int64)), .second, iv (1 : Int32), iv (0 : Int32), .unset] [(.int (0 : Int32)), (.ref r1)])) t → Steps p.tables e below (s₁.setTop (entryFrame m #[(.ref r0), (.ref r1)] 10)) t := by
      intro t kt
      refine pre74 _ ?_
      show Steps p.tables e below (T73.setTop (mkF m 261 #[rv r0, rv r1, rv b16, .val (.long (0 : Int64)), .second, .val (.long (0 : Int64)), .second, iv (1 : Int32), iv (0 : Int32), .unset] [(.ref r1), (.int (0 : Int32))])) _
      refine st85.trans ?_
      show Steps p.tables e below (T85.setTop (mkF m 264 #[rv r0, rv r1, rv b16, .val (.long (0 : Int64)), .second, .val (.long (0 : Int64)), .second, iv (1 : Int32), iv (0 : Int32), .unset] [(.int (1 : Int32)), (.int (0 : Int32))])) _
      refine XS.icmpNo X85.here hx rfl (hb hby d28_264) rfl (tlt (by decide)).2.1 ?_
      refine XS.aloadN X85.here hx rfl (hb hby d28_267) rfl rfl ?_
      refine XS.iload X85.here hx rfl (hb hby d28_268) rfl ?_
      exact kt
    obtain ⟨cq87, kq87, q87a, q87b, q87c⟩ := isOf hZ hh85 f80
    obtain ⟨_, _, ⟨T87, L87, k87, n87⟩, -, X87, ⟨Lc87, hQ87, l87, y87, z87⟩, st87⟩ := X85.virtualBack hx (y := (⟨"java/lang/String", "charAt", "(I)C"⟩ : MethodName)) (z := (⟨"java/lang/String", "charAt", "(I)C"⟩ : MethodName)) hown (mvT hZ (hw _ (List.mem_of_getElem? (i := 144) rfl))) (mvT hZ (hw _ (List.mem_of_getElem? (i := 145) rfl))) (notFace_of_selects (args := #[]) (mvT hZ (hw _ (List.mem_of_getElem? (i := 147) rfl)))) (mvT hZ (hw _ (List.mem_of_getElem? (i := 147) rfl))) (mvT hZ (hw _ (List.mem_of_getElem? (i := 146) rfl))) (by decide) (backOf (W := 0) (rm29 l Z a0 hw [] r1 va kc ch cs fm h73 n0 (Nat.le_trans Z0 K73.1) f81 f82 f80 f75 (O0.keep K73 (allS g_r0 all0)) S_cs hcs S_fm hr_fm hok_ch) hZ (hw _ (List.mem_of_getElem? (i := 148) rfl)) (hw _ (List.mem_of_getElem? (i := 7) rfl)) (by decide) (by decide)) q87a q87c (g := (mkF m 270 #[rv r0, rv r1, rv b16, .val (.long (0 : Int64)), .second, .val (.long (0 : Int64)), .second, iv (1 : Int32), iv (0 : Int32), .unset] [(.int (0 : Int32)), (.ref r1)])) rfl (by rw [hml]; rfl) (Steps.refl _) (argsL := [(.int (0 : Int32))]) (rest := []) (lenOf pd26 rfl) rfl (by show 2 * 0 + _ ≤ _; exact Nat.le_of_eq rfl) (hb hby d28_270) (fun _ _ => ⟨rfl, hh85, (by decide : 3 + 0 ≤ _), (by decide : 3 + 0 ≤ _)⟩)
    dsimp only [Pt.U, Pt.locs, Pt.cells, Pt.slots] at X87 l87 y87 z87 st87 hQ87
    subst l87 y87 z87
    obtain ⟨rfl, N87q, hh87⟩ := hQ87
    have N87 := Fr.app N85 N87q
    have pre88 : ∀ t, Steps p.tables e below (T87.setTop (mkF m 277 #[rv r0, rv r1, rv b16, .val (.long (0 : Int64)), .second, .val (.long (0 : Int64)), .second, iv (1 : Int32), iv (0 : Int32), iv ch] [(.int ch)])) t → Steps p.tables e below (s₁.setTop (entryFrame m #[(.ref r0), (.ref r1)] 10)) t := by
      intro t kt
      refine pre86 _ ?_
      show Steps p.tables e below (T85.setTop (mkF m 270 #[rv r0, rv r1, rv b16, .val (.long (0 : Int64)), .second, .val (.long (0 : Int64)), .second, iv (1 : Int32), iv (0 : Int32), .unset] [(.int (0 : Int32)), (.ref r1)])) _
      refine st87.trans ?_
      show Steps p.tables e below (T87.setTop (mkF m 273 #[rv r0, rv r1, rv b16, .val (.long (0 : Int64)), .second, .val (.long (0 : Int64)), .second, iv (1 : Int32), iv (0 : Int32), .unset] [(.int ch)])) _
      refine XS.istore X87.here hx rfl (hb hby d28_273) rfl (l' := #[rv r0, rv r1, rv b16, .val (.long (0 : Int64)), .second, .val (.long (0 : Int64)), .second, iv (1 : Int32), iv (0 : Int32), iv ch]) rfl ?_
      refine XS.iload X87.here hx rfl (hb hby d28_275) rfl ?_
      exact kt
    obtain ⟨_, _, ⟨T89, L89, k89, n89⟩, -, X89, ⟨Lc89, hQ89, l89, y89, z89⟩, st89⟩ := Jvm.LawKit.callS X87 hx (y := (⟨"com/example/subject/subject/model/Wildcards", "isWildcard", "(I)Z"⟩ : MethodName)) hown (mvT hZ (hw _ (List.mem_of_getElem? (i := 177) rfl))) (mvT hZ (hw _ (List.mem_of_getElem? (i := 2) rfl))) (mvT hZ (hw _ (List.mem_of_getElem? (i := 3) rfl))) (mvT hZ (hw _ (List.mem_of_getElem? (i := 4) rfl))) (by decide) (backOf (W := 0) (rm1 l Z a0 hw [] ch (1 : Int32) h73 n0 (Nat.le_trans Z0 K73.1) (by rw [hc68]; decide)) hZ (hw _ (List.mem_of_getElem? (i := 4) rfl)) (hw _ (List.mem_of_getElem? (i := 3) rfl)) (by decide) (by decide)) (g := (mkF m 277 #[rv r0, rv r1, rv b16, .val (.long (0 : Int64)), .second, .val (.long (0 : Int64)), .second, iv (1 : Int32), iv (0 : Int32), iv ch] [(.int ch)])) rfl (by rw [hml]; rfl) (argsL := [(.int ch)]) (rest := []) (lenOf pd18 rfl) rfl (by show 2 * 0 + _ ≤ _; exact Nat.le_of_eq rfl) (hb hby d28_277) (fun _ _ => ⟨rfl, hh87, (by decide : 3 + 0 ≤ _), (by decide : 3 + 0 ≤ _)⟩)
    dsimp only [Pt.U, Pt.locs, Pt.cells, Pt.slots] at X89 l89 y89 z89 st89 hQ89
    subst l89 y89 z89
    obtain ⟨rfl, N89q, hh89⟩ := hQ89
    have N89 := Fr.app N87 N89q
    have pre90 : ∀ t, Steps p.tables e below (T89.setTop (mkF m 261 #[rv r0, rv r1, rv b16, .val (.long (0 : Int64)), .second, .val (.long (0 : Int64)), .second, iv (1 : Int32), iv (1 : Int32), iv ch] [(.ref r1), (.int (1 : Int32))])) t → Steps p.tables e below (s₁.setTop (entryFrame m #[(.ref r0), (.ref r1)] 10)) t := by
      intro t kt
      refine pre88 _ ?_
      show Steps p.tables e below (T87.setTop (mkF m 277 #[rv r0, rv r1, rv b16, .val (.long (0 : Int64)), .second, .val (.long (0 : Int64)), .second, iv (1 : Int32), iv (0 : Int32), iv ch] [(.int ch)])) _
      refine st89 _ ?_
      show Steps p.tables e below (T89.setTop (mkF m 280 #[rv r0, rv r1, rv b16, .val (.long (0 : Int64)), .second, .val (.long (0 : Int64)), .second, iv (1 : Int32), iv (0 : Int32), iv ch] [(.int (1 : Int32))])) _
      refine XS.ifYes X89.here hx rfl (pc0 := 280) (pc' := 315) rfl (hb hby d28_280) rfl ((if0 _ _).trans (feq (by decide)).2) (by decide) (by decide) ?_
      refine XS.iinc X89.here hx rfl (hb hby d28_315) rfl (l' := #[rv r0, rv r1, rv b16, .val (.long (0 : Int64)), .second, .val (.long (0 : Int64)), .second, iv (1 : Int32), iv ((0 : Int32) + (1 : Int32)), iv ch]) rfl ?_
      show Steps p.tables e below (T89.setTop (mkF m 318 #[rv r0, rv r1, rv b16, .val (.long (0 : Int64)), .second, .val (.long (0 : Int64)), .second, iv (1 : Int32), iv ((0 : Int32) + (1 : Int32)), iv ch] [])) _
      rw [show ((0 : Int32) + (1 : Int32)) = (1 : Int32) from (by decide)]
      show Steps p.tables e below (T89.setTop (mkF m 318 #[rv r0, rv r1, rv b16, .val (.long (0 : Int64)), .second, .val (.long (0 : Int64)), .second, iv (1 : Int32), iv (1 : Int32), iv ch] [])) _
      refine XS.goto X89.here hx rfl (pc0 := 318) (pc' := 258) rfl (hb hby d28_318) (by decide) (by decide) ?_
      refine XS.iload X89.here hx rfl (hb hby d28_258) rfl ?_
      refine XS.aloadN X89.here hx rfl (hb hby d28_260) rfl rfl ?_
      exact kt
    obtain ⟨cq91, kq91, q91a, q91b, q91c⟩ := isOf hZ hh89 f80
    obtain ⟨_, _, ⟨T91, L91, k91, n91⟩, -, X91, ⟨Lc91, hQ91, l91, y91, z91⟩, st91⟩ := X89.virtualBack hx (y := (⟨"java/lang/String", "length", "()I"⟩ : MethodName)) (z := (⟨"java/lang/String", "length", "()I"⟩ : MethodName)) hown (mvT hZ (hw _ (List.mem_of_getElem? (i := 138) rfl))) (mvT hZ (hw _ (List.mem_of_getElem? (i := 94) rfl))) (notFace_of_selects (args := #[]) (mvT hZ (hw _ (List.mem_of_getElem? (i := 96) rfl)))) (mvT hZ (hw _ (List.mem_of_getElem? (i := 96) rfl))) (mvT hZ (hw _ (List.mem_of_getElem? (i := 95) rfl))) (by decide) (backOf (W := 1) (rm19 l Z a0 hw [] r1 va kc ch cs h73 n0 (Nat.le_trans Z0 K73.1) f81 f82 f80 f75 (O0.keep K73 (allS g_r0 all0)) S_cs hcs) hZ (hw _ (List.mem_of_getElem? (i := 97) rfl)) (hw _ (List.mem_of_getElem? (i := 7) rfl)) (by decide) (by decide)) q91a q91c (g := (mkF m 261 #[rv r0, rv r1, rv b16, .val (.long (0 : Int64)), .second, .val (.long (0 : Int64)), .second, iv (1 : Int32), iv (1 : Int32), iv ch] [(.ref r1), (.int (1 : Int32))])) rfl (by rw [hml]; rfl) (Steps.refl _) (argsL := []) (rest := [(.int (1 : Int32))]) (lenOf pd21 rfl) rfl (by show 2 * 0 + _ ≤ _; exact Nat.le_of_eq rfl) (hb hby d28_261) (fun _ _ => ⟨rfl, hh89, (by decide : 3 + 0 ≤ _), (by decide : 3 + 0 ≤ _)⟩)
    dsimp only [Pt.U, Pt.locs, Pt.cells, Pt.slots] at X91 l91 y91 z91 st91 hQ91
    subst l91 y91 z91
    obtain ⟨rfl, N91q, hh91⟩ := hQ91
    have N91 := Fr.app N89 N91q
    have pre92 : ∀ t, Steps p.tables e below (T91.setTop (mkF m 321 #[rv r0, rv r1, rv b16, .val (.long (0 : Int64)), .second, .val (.long (0 : Int64)), .second, iv (1 : Int32), iv (1 : Int32), iv ch] [])) t → Steps p.tables e below (s₁.setTop (entryFrame m #[(.ref r0), (.ref r1)] 10)) t := by
      intro t kt
      refine pre90 _ ?_
      show Steps p.tables e below (T89.setTop (mkF m 261 #[rv r0, rv r1, rv b16, .val (.long (0 : Int64)), .second, .val (.long (0 : Int64)), .second, iv (1 : Int32), iv (1 : Int32), iv ch] [(.ref r1), (.int (1 : Int32))])) _
      refine st91.trans ?_
      show Steps p.tables e below (T91.setTop (mkF m 264 #[rv r0, rv r1, rv b16, .val (.long (0 : Int64)), .second, .val (.long (0 : Int64)), .second, iv (1 : Int32), iv (1 : Int32), iv ch] [(.int (1 : Int32)), (.int (1 : Int32))])) _
      refine XS.icmpYes X91.here hx rfl (pc0 := 264) (pc' := 321) rfl (hb hby d28_264) rfl (flt (by decide)).2.1 (by decide) (by decide) ?_
      exact kt
    obtain ⟨fs, hr, hrun, hended, hW, hsame⟩ := X91.leave (v := none) (fun _ => rfl)
    refine ⟨_, _, pre92 _ ?_, hrun, hended, _, _, rfl, ?_, ⟨_, rfl⟩, hW, hsame.mono (by decide) (by decide)⟩
    · show Steps p.tables e below (T91.setTop (mkF m 321 #[rv r0, rv r1, rv b16, .val (.long (0 : Int64)), .second, .val (.long (0 : Int64)), .second, iv (1 : Int32), iv (1 : Int32), iv ch] [])) _
      exact X91.returnOut hx Bd.returns (hb hby d28_321) hr
    · show Q28 Z r0 r1 va kc ch cs fm h0 n0 _ T91.heap _
      rw [hh91]
      exact ⟨rfl, N91, K73⟩
  · have pre93 : ∀ t, Steps p.tables e below (T29.setTop (mkF m 98 #[rv r0, rv r1, rv b16, .val (.long (0 : Int64)), .second, .val (.long (0 : Int64)), .second, iv (0 : Int32), iv ch, .unset] [(.int (63 : Int32)), (.int ch)])) t → Steps p.tables e below (s₁.setTop (entryFrame m #[(.ref r0), (.ref r1)] 10)) t := by
      intro t kt
      refine pre30 _ ?_
      show Steps p.tables e below (T29.setTop (mkF m 68 #[rv r0, rv r1, rv b16, .val (.long (0 : Int64)), .second, .val (.long (0 : Int64)), .second, iv (0 : Int32), iv ch, .unset] [(.int (42 : Int32)), (.int ch)])) _
      refine XS.icmpYes X29.here hx rfl (pc0 := 68) (pc' := 94) rfl (hb hby d28_68) rfl (feq hc68).2 (by decide) (by decide) ?_
      refine XS.iload X29.here hx rfl (hb hby d28_94) rfl ?_
      refine XS.bipush X29.here hx rfl (hb hby d28_96) ?_
      exact kt
    by_cases hc98 : ch = (63 : Int32)
    · obtain ⟨cl94, Ar94, q94, S94, M94, H94, G94⟩ := id V_b16
      have hin94 : ¬ ((0 : Int32) < 0 ∨ cl94.slots.size ≤ ((0 : Int32)).toNatClampNeg) := inb_of S94 ⟨by decide, by decide⟩
      have hat94 : cl94.slots[((0 : Int32)).toNatClampNeg]? = some (.long (0 : Int64)) := H94.at hin94 rfl
      have pre95 : ∀ t, Steps p.tables e below (T29.setTop (mkF m 117 #[rv r0, rv r1, rv b16, .val (.long (0 : Int64)), .second, .val (.long (0 : Int64)), .second, iv (0 : Int32), iv ch, .unset] [(.long (1 : Int64)), (.int (0 : Int32)), (.ref b16)])) t → Steps p.tables e below (s₁.setTop (entryFrame m #[(.ref r0), (.ref r1)] 10)) t := by
        intro t kt
        refine pre93 _ ?_
        show Steps p.tables e below (T29.setTop (mkF m 98 #[rv r0, rv r1, rv b16, .val (.long (0 : Int64)), .second, .val (.long (0 : Int64)), .second, iv (0 : Int32), iv ch, .unset] [(.int (63 : Int32)), (.int ch)])) _
        refine XS.icmpNo X29.here hx rfl (hb hby d28_98) rfl (teq hc98).2 ?_
        refine XS.aloadN X29.here hx rfl (hb hby d28_101) rfl rfl ?_
        refine XS.iload X29.here hx rfl (hb hby d28_102) rfl ?_
        refine XS.bipush X29.here hx rfl (hb hby d28_104) ?_
        refine XS.idiv X29.here hx rfl (hb hby d28_106) rfl (by decide) ?_
        show Steps p.tables e below (T29.setTop (mkF m 107 #[rv r0, rv r1, rv b16, .val (.long (0 : Int64)), .second, .val (.long (0 : Int64)), .second, iv (0 : Int32), iv ch, .unset] [(.int ((0 : Int32) / (64 : Int32))), (.ref b16)])) _
        rw [show ((0 : Int32) / (64 : Int32)) = (0 : Int32) from (by decide)]
        show Steps p.tables e below (T29.setTop (mkF m 107 #[rv r0, rv r1, rv b16, .val (.long (0 : Int64)), .second, .val (.long (0 : Int64)), .second, iv (0 : Int32), iv ch, .unset] [(.int (0 : Int32)), (.ref b16)])) _
        refine XT.dup2 X29.here hx rfl (hb hby d28_107) rfl rfl rfl ?_
        show Steps p.tables e below (T29.setTop (mkF m 108 #[rv r0, rv r1, rv b16, .val (.long (0 : Int64)), .second, .val (.long (0 : Int64)), .second, iv (0 : Int32), iv ch, .unset] [(.int (0 : Int32)), (.ref b16), (.int (0 : Int32)), (.ref b16)])) _
        refine X29.laload hx (j := (0 : Int32)) (v := (.long (0 : Int64))) (by rw [hh29]; exact Ar94.1) (State.isArrayOf_alike hZ.alike Ar94.2.1) Ar94.2.2 hin94 hat94 (g := (mkF m 108 #[rv r0, rv r1, rv b16, .val (.long (0 : Int64)), .second, .val (.long (0 : Int64)), .second, iv (0 : Int32), iv ch, .unset] [(.int (0 : Int32)), (.ref b16), (.int (0 : Int32)), (.ref b16)])) rfl rfl (hb hby d28_108) _ ?_
        show Steps p.tables e below (T29.setTop (mkF m 109 #[rv r0, rv r1, rv b16, .val (.long (0 : Int64)), .second, .val (.long (0 : Int64)), .second, iv (0 : Int32), iv ch, .unset] [(.long (0 : Int64)), (.int (0 : Int32)), (.ref b16)])) _
        refine XS.lconst X29.here hx rfl (hb hby d28_109) ?_
        refine XS.iload X29.here hx rfl (hb hby d28_110) rfl ?_
        refine XS.bipush X29.here hx rfl (hb hby d28_112) ?_
        refine iremM X29 hx rfl (hb hby d28_114) rfl (by decide) ?_
        show Steps p.tables e below (T29.setTop (mkF m 115 #[rv r0, rv r1, rv b16, .val (.long (0 : Int64)), .second, .val (.long (0 : Int64)), .second, iv (0 : Int32), iv ch, .unset] [(.int ((0 : Int32) % (64 : Int32))), (.long (1 : Int64)), (.long (0 : Int64)), (.int (0 : Int32)), (.ref b16)])) _
        rw [show ((0 : Int32) % (64 : Int32)) = (0 : Int32) from (by decide)]
        show Steps p.tables e below (T29.setTop (mkF m 115 #[rv r0, rv r1, rv b16, .val (.long (0 : Int64)), .second, .val (.long (0 : Int64)), .second, iv (0 : Int32), iv ch, .unset] [(.int (0 : Int32)), (.long (1 : Int64)), (.long (0 : Int64)), (.int (0 : Int32)), (.ref b16)])) _
        refine XS.lshl X29.here hx rfl (hb hby d28_115) rfl ?_
        show Steps p.tables e below (T29.setTop (mkF m 116 #[rv r0, rv r1, rv b16, .val (.long (0 : Int64)), .second, .val (.long (0 : Int64)), .second, iv (0 : Int32), iv ch, .unset] [(.long ((1 : Int64) <<< ((0 : Int32) &&& 0x3f).toInt64)), (.long (0 : Int64)), (.int (0 : Int32)), (.ref b16)])) _
        rw [show ((1 : Int64) <<< ((0 : Int32) &&& 0x3f).toInt64) = (1 : Int64) from (by decide)]
        show Steps p.tables e below (T29.setTop (mkF m 116 #[rv r0, rv r1, rv b16, .val (.long (0 : Int64)), .second, .val (.long (0 : Int64)), .second, iv (0 : Int32), iv ch, .unset] [(.long (1 : Int64)), (.long (0 : Int64)), (.int (0 : Int32)), (.ref b16)])) _
        refine XS.lor X29.here hx rfl (hb hby d28_116) rfl ?_
        show Steps p.tables e below (T29.setTop (mkF m 117 #[rv r0, rv r1, rv b16, .val (.long (0 : Int64)), .second, .val (.long (0 : Int64)), .second, iv (0 : Int32), iv ch, .unset] [(.long ((0 : Int64) ||| (1 : Int64))), (.int (0 : Int32)), (.ref b16)])) _
        rw [show ((0 : Int64) ||| (1 : Int64)) = (1 : Int64) from (by decide)]
        exact kt
      obtain ⟨cl96, Ar96, q96, S96, M96, H96, G96⟩ := id V_b16
      have hin96 : ¬ ((0 : Int32) < 0 ∨ cl96.slots.size ≤ ((0 : Int32)).toNatClampNeg) := inb_of S96 ⟨by decide, by decide⟩
      obtain ⟨T96, h96, X96, e96, W96, st96⟩ := stJ X29 hx hZ hh29 Ar96 (j := (0 : Int32)) hin96 (g := (mkF m 117 #[rv r0, rv r1, rv b16, .val (.long (0 : Int64)), .second, .val (.long (0 : Int64)), .second, iv (0 : Int32), iv ch, .unset] [(.long (1 : Int64)), (.int (0 : Int32)), (.ref b16)])) rfl rfl (hb hby d28_117)
      have V96 : Arv Z h96 b16 k16 .long (1 : Int32) [(.long (1 : Int64))] (.long (0 : Int64)) := Arv.set Ar96 q96 S96 M96 H96 G96 rfl W96 0 rfl (Nat.le_of_ble_eq_true rfl)
      have K96 : Keep h0 h96 [r0] := K16.wr W96 (Or.inr sz_b16)
      have N96 := Fr.snoc X96 N29 g_b16
      have pre97 : ∀ t, Steps p.tables e below (T96.setTop (mkF m 50 #[rv r0, rv r1, rv b16, .val (.long (0 : Int64)), .second, .val (.long (0 : Int64)), .second, iv (1 : Int32), iv ch, .unset] [(.ref r1), (.int (1 : Int32))])) t → Steps p.tables e below (s₁.setTop (entryFrame m #[(.ref r0), (.ref r1)] 10)) t := by
        intro t kt
        refine pre95 _ ?_
        show Steps p.tables e below (T29.setTop (mkF m 117 #[rv r0, rv r1, rv b16, .val (.long (0 : Int64)), .second, .val (.long (0 : Int64)), .second, iv (0 : Int32), iv ch, .unset] [(.long (1 : Int64)), (.int (0 : Int32)), (.ref b16)])) _
        refine st96 _ ?_
        show Steps p.tables e below (T96.setTop (mkF m 118 #[rv r0, rv r1, rv b16, .val (.long (0 : Int64)), .second, .val (.long (0 : Int64)), .second, iv (0 : Int32), iv ch, .unset] [])) _
        refine XS.goto X96.here hx rfl (pc0 := 118) (pc' := 175) rfl (hb hby d28_118) (by decide) (by decide) ?_
        refine XS.iinc X96.here hx rfl (hb hby d28_175) rfl (l' := #[rv r0, rv r1, rv b16, .val (.long (0 : Int64)), .second, .val (.long (0 : Int64)), .second, iv ((0 : Int32) + (1 : Int32)), iv ch, .unset]) rfl ?_
        show Steps p.tables e below (T96.setTop (mkF m 178 #[rv r0, rv r1, rv b16, .val (.long (0 : Int64)), .second, .val (.long (0 : Int64)), .second, iv ((0 : Int32) + (1 : Int32)), iv ch, .unset] [])) _
        rw [show ((0 : Int32) + (1 : Int32)) = (1 : Int32) from (by decide)]
        show Steps p.tables e below (T96.setTop (mkF m 178 #[rv r0, rv r1, rv b16, .val (.long (0 : Int64)), .second, .val (.long (0 : Int64)), .second, iv (1 : Int32), iv ch, .unset] [])) _
        refine XS.goto X96.here hx rfl (pc0 := 178) (pc' := 47) rfl (hb hby d28_178) (by decide) (by decide) ?_
        refine XS.iload X96.here hx rfl (hb hby d28_47) rfl ?_
        refine XS.aloadN X96.here hx rfl (hb hby d28_49) rfl rfl ?_
        exact kt
      have f98 := (((V_b10.other W12 (Exa.ne (((Ex10.wr W12).ext E16).wr W96) (f19.wr W96) (by decide))).ext E16).other W96 (Nat.ne_of_lt (Nat.lt_of_lt_of_le (V_b10.other W12 (Exa.ne (((Ex10.wr W12).ext E16).wr W96) (f19.wr W96) (by decide))).lt (Nat.le_of_eq g16.symm))))
      have f99 := (((Ex10.wr W12).ext E16).wr W96)
      obtain ⟨cq100, kq100, q100a, q100b, q100c⟩ := isOf hZ e96 (f24.wr W96)
      obtain ⟨_, _, ⟨T100, L100, k100, n100⟩, -, X100, ⟨Lc100, hQ100, l100, y100, z100⟩, st100⟩ := X96.virtualBack hx (y := (⟨"java/lang/String", "length", "()I"⟩ : MethodName)) (z := (⟨"java/lang/String", "length", "()I"⟩ : MethodName)) hown (mvT hZ (hw _ (List.mem_of_getElem? (i := 138) rfl))) (mvT hZ (hw _ (List.mem_of_getElem? (i := 94) rfl))) (notFace_of_selects (args := #[]) (mvT hZ (hw _ (List.mem_of_getElem? (i := 96) rfl)))) (mvT hZ (hw _ (List.mem_of_getElem? (i := 96) rfl))) (mvT hZ (hw _ (List.mem_of_getElem? (i := 95) rfl))) (by decide) (backOf (W := 1) (rm19 l Z a0 hw [] r1 va kc ch cs h96 n0 (Nat.le_trans Z0 K96.1) (f25.other W96 (Or.inl (Exa.ne (f24.wr W96) (Ex16.wr W96) (by decide)))) (f26.other W96 (Or.inl (Exa.ne (f24.wr W96) (Ex16.wr W96) (by decide)))) (f24.wr W96) (f18.other W96 (Nat.ne_of_lt (Nat.lt_of_lt_of_le (((V_va.other W6 (Ne.symm (Exa.neArv f19 f18 (hw _ (List.mem_of_getElem? (i := 132) rfl))))).ext E10).other W12 (Ne.symm (Exa.neArv f19 f18 (hw _ (List.mem_of_getElem? (i := 132) rfl))))).lt (Nat.le_of_eq g16.symm)))) (O0.keep K96 (allS g_r0 all0)) S_cs hcs) hZ (hw _ (List.mem_of_getElem? (i := 97) rfl)) (hw _ (List.mem_of_getElem? (i := 7) rfl)) (by decide) (by decide)) q100a q100c (g := (mkF m 50 #[rv r0, rv r1, rv b16, .val (.long (0 : Int64)), .second, .val (.long (0 : Int64)), .second, iv (1 : Int32), iv ch, .unset] [(.ref r1), (.int (1 : Int32))])) rfl (by rw [hml]; rfl) (Steps.refl _) (argsL := []) (rest := [(.int (1 : Int32))]) (lenOf pd21 rfl) rfl (by show 2 * 0 + _ ≤ _; exact Nat.le_of_eq rfl) (hb hby d28_50) (fun _ _ => ⟨rfl, e96, (by decide : 2 + 0 ≤ _), (by decide : 2 + 0 ≤ _)⟩)
      dsimp only [Pt.U, Pt.locs, Pt.cells, Pt.slots] at X100 l100 y100 z100 st100 hQ100
      subst l100 y100 z100
      obtain ⟨rfl, N100q, hh100⟩ := hQ100
      have N100 := Fr.app N96 N100q
      have pre101 : ∀ t, Steps p.tables e below (T100.setTop (mkF m 183 #[rv r0, rv r1, rv b16, .val (.long (0 : Int64)), .second, .val (.long (0 : Int64)), .second, iv (1 : Int32), iv ch, .unset] [(.long (0 : Int64)), (.ref r0)])) t → Steps p.tables e below (s₁.setTop (entryFrame m #[(.ref r0), (.ref r1)] 10)) t := by
        intro t kt
        refine pre97 _ ?_
        show Steps p.tables e below (T96.setTop (mkF m 50 #[rv r0, rv r1, rv b16, .val (.long (0 : Int64)), .second, .val (.long (0 : Int64)), .second, iv (1 : Int32), iv ch, .unset] [(.ref r1), (.int (1 : Int32))])) _
        refine st100.trans ?_
        show Steps p.tables e below (T100.setTop (mkF m 53 #[rv r0, rv r1, rv b16, .val (.long (0 : Int64)), .second, .val (.long (0 : Int64)), .second, iv (1 : Int32), iv ch, .unset] [(.int (1 : Int32)), (.int (1 : Int32))])) _
        refine XS.icmpYes X100.here hx rfl (pc0 := 53) (pc' := 181) rfl (hb hby d28_53) rfl (flt (by decide)).2.1 (by decide) (by decide) ?_
        refine XS.aloadN X100.here hx rfl (hb hby d28_181) rfl rfl ?_
        refine XS.lloadN X100.here hx rfl (hb hby d28_182) rfl ?_
        exact kt
      obtain ⟨T102, h102, X102, e102, W102, st102⟩ := putF X100 hx hZ hown (host := "") (Or.inl (hw _ (List.mem_of_getElem? (i := 160) rfl))) Via.refl hh100 (f21.other W96 (Or.inl (Exa.ne (f19.wr W96) (Ex16.wr W96) (by decide)))) (f19.wr W96) (Or.inr ⟨(hw _ (List.mem_of_getElem? (i := 161) rfl)), rfl, hnm⟩) (hw _ (List.mem_of_getElem? (i := 132) rfl)) (ty := .long) (by decide) rfl rfl (g := (mkF m 183 #[rv r0, rv r1, rv b16, .val (.long (0 : Int64)), .second, .val (.long (0 : Int64)), .second, iv (1 : Int32), iv ch, .unset] [(.long (0 : Int64)), (.ref r0)])) rfl rfl (hb hby d28_183)
      have Fw102 : Fld Z h102 r0 "com/example/subject/subject/model/Wildcards$Places" "heldLow" "J" (.long (0 : Int64)) := (f21.other W96 (Or.inl (Exa.ne (f19.wr W96) (Ex16.wr W96) (by decide)))).same W102
      have K102 : Keep h0 h102 [r0] := K96.wr W102 (Or.inl (List.mem_of_getElem? (i := 0) rfl))
      have N102 := Fr.snoc X102 N100 g_r0
      have pre103 : ∀ t, Steps p.tables e below (T102.setTop (mkF m 189 #[rv r0, rv r1, rv b16, .val (.long (0 : Int64)), .second, .val (.long (0 : Int64)), .second, iv (1 : Int32), iv ch, .unset] [(.long (0 : Int64)), (.ref r0)])) t → Steps p.tables e below (s₁.setTop (entryFrame m #[(.ref r0), (.ref r1)] 10)) t := by
        intro t kt
        refine pre101 _ ?_
        show Steps p.tables e below (T100.setTop (mkF m 183 #[rv r0, rv r1, rv b16, .val (.long (0 : Int64)), .second, .val (.long (0 : Int64)), .second, iv (1 : Int32), iv ch, .unset] [(.long (0 : Int64)), (.ref r0)])) _
        refine st102 _ ?_
        show Steps p.tables e below (T102.setTop (mkF m 186 #[rv r0, rv r1, rv b16, .val (.long (0 : Int64)), .second, .val (.long (0 : Int64)), .second, iv (1 : Int32), iv ch, .unset] [])) _
        refine XS.aloadN X102.here hx rfl (hb hby d28_186) rfl rfl ?_
        refine XS.lload X102.here hx rfl (hb hby d28_187) rfl ?_
        exact kt
      obtain ⟨T104, h104, X104, e104, W104, st104⟩ := putF X102 hx hZ hown (host := "") (Or.inl (hw _ (List.mem_of_getElem? (i := 162) rfl))) Via.refl e102 ((f22.other W96 (Or.inl (Exa.ne ((f19.wr W96).wr W102) ((Ex16.wr W96).wr W102) (by decide)))).other W102 (Or.inr (slot_ne (Or.inr (hw _ (List.mem_of_getElem? (i := 163) rfl))) (Or.inr (hw _ (List.mem_of_getElem? (i := 161) rfl))) (by decide) (t := .long) (t' := .long) (by decide) (by decide)))) ((f19.wr W96).wr W102) (Or.inr ⟨(hw _ (List.mem_of_getElem? (i := 163) rfl)), rfl, hnm⟩) (hw _ (List.mem_of_getElem? (i := 132) rfl)) (ty := .long) (by decide) rfl rfl (g := (mkF m 189 #[rv r0, rv r1, rv b16, .val (.long (0 : Int64)), .second, .val (.long (0 : Int64)), .second, iv (1 : Int32), iv ch, .unset] [(.long (0 : Int64)), (.ref r0)])) rfl rfl (hb hby d28_189)
      have Fw104 : Fld Z h104 r0 "com/example/subject/subject/model/Wildcards$Places" "heldHigh" "J" (.long (0 : Int64)) := ((f22.other W96 (Or.inl (Exa.ne ((f19.wr W96).wr W102) ((Ex16.wr W96).wr W102) (by decide)))).other W102 (Or.inr (slot_ne (Or.inr (hw _ (List.mem_of_getElem? (i := 163) rfl))) (Or.inr (hw _ (List.mem_of_getElem? (i := 161) rfl))) (by decide) (t := .long) (t' := .long) (by decide) (by decide)))).same W104
      have K104 : Keep h0 h104 [r0] := K102.wr W104 (Or.inl (List.mem_of_getElem? (i := 0) rfl))
      have N104 := Fr.snoc X104 N102 g_r0
      have pre105 : ∀ t, Steps p.tables e below (T104.setTop (mkF m 194 #[rv r0, rv r1, rv b16, .val (.long (0 : Int64)), .second, .val (.long (0 : Int64)), .second, iv (1 : Int32), iv ch, .unset] [(.long (0 : Int64)), (.int (1 : Int32))])) t → Steps p.tables e below (s₁.setTop (entryFrame m #[(.ref r0), (.ref r1)] 10)) t := by
        intro t kt
        refine pre103 _ ?_
        show Steps p.tables e below (T102.setTop (mkF m 189 #[rv r0, rv r1, rv b16, .val (.long (0 : Int64)), .second, .val (.long (0 : Int64)), .second, iv (1 : Int32), iv ch, .unset] [(.long (0 : Int64)), (.ref r0)])) _
        refine st104 _ ?_
        show Steps p.tables e below (T104.setTop (mkF m 192 #[rv r0, rv r1, rv b16, .val (.long (0 : Int64)), .second, .val (.long (0 : Int64)), .second, iv (1 : Int32), iv ch, .unset] [])) _
        refine XS.iconst X104.here hx rfl (hb hby d28_192) ?_
        refine XS.lloadN X104.here hx rfl (hb hby d28_193) rfl ?_
        exact kt
      have f106 := (((f18.other W96 (Nat.ne_of_lt (Nat.lt_of_lt_of_le (((V_va.other W6 (Ne.symm (Exa.neArv f19 f18 (hw _ (List.mem_of_getElem? (i := 132) rfl))))).ext E10).other W12 (Ne.symm (Exa.neArv f19 f18 (hw _ (List.mem_of_getElem? (i := 132) rfl))))).lt (Nat.le_of_eq g16.symm)))).other W102 (Ne.symm (Exa.neArv f19 f18 (hw _ (List.mem_of_getElem? (i := 132) rfl))))).other W104 (Ne.symm (Exa.neArv f19 f18 (hw _ (List.mem_of_getElem? (i := 132) rfl)))))
      have f107 := (((f19.wr W96).wr W102).wr W104)
      have f108 := (((f20.other W96 (Or.inl (Exa.ne f107 (((Ex16.wr W96).wr W102).wr W104) (by decide)))).other W102 (Or.inr (slot_ne (Or.inr (hw _ (List.mem_of_getElem? (i := 140) rfl))) (Or.inr (hw _ (List.mem_of_getElem? (i := 161) rfl))) (by decide) (t := .int) (t' := .long) (by decide) (by decide)))).other W104 (Or.inr (slot_ne (Or.inr (hw _ (List.mem_of_getElem? (i := 140) rfl))) (Or.inr (hw _ (List.mem_of_getElem? (i := 163) rfl))) (by decide) (t := .int) (t' := .long) (by decide) (by decide))))
      have f109 := (((f23.other W96 (Or.inl (Exa.ne f107 (((Ex16.wr W96).wr W102).wr W104) (by decide)))).other W102 (Or.inr (slot_ne (Or.inr (hw _ (List.mem_of_getElem? (i := 172) rfl))) (Or.inr (hw _ (List.mem_of_getElem? (i := 161) rfl))) (by decide) (t := (.array .long)) (t' := .long) (by decide) (by decide)))).other W104 (Or.inr (slot_ne (Or.inr (hw _ (List.mem_of_getElem? (i := 172) rfl))) (Or.inr (hw _ (List.mem_of_getElem? (i := 163) rfl))) (by decide) (t := (.array .long)) (t' := .long) (by decide) (by decide))))
      have f110 := ((((Fw12.ext E16).other W96 (Or.inl (Exa.ne f107 (((Ex16.wr W96).wr W102).wr W104) (by decide)))).other W102 (Or.inr (slot_ne (Or.inr (hw _ (List.mem_of_getElem? (i := 143) rfl))) (Or.inr (hw _ (List.mem_of_getElem? (i := 161) rfl))) (by decide) (t := (.array .long)) (t' := .long) (by decide) (by decide)))).other W104 (Or.inr (slot_ne (Or.inr (hw _ (List.mem_of_getElem? (i := 143) rfl))) (Or.inr (hw _ (List.mem_of_getElem? (i := 163) rfl))) (by decide) (t := (.array .long)) (t' := .long) (by decide) (by decide))))
      have f111 := (((f24.wr W96).wr W102).wr W104)
      have f112 := (((f25.other W96 (Or.inl (Exa.ne f111 (((Ex16.wr W96).wr W102).wr W104) (by decide)))).other W102 (Or.inl (Exa.ne f111 f107 (by decide)))).other W104 (Or.inl (Exa.ne f111 f107 (by decide))))
      have f113 := (((f26.other W96 (Or.inl (Exa.ne f111 (((Ex16.wr W96).wr W102).wr W104) (by decide)))).other W102 (Or.inl (Exa.ne f111 f107 (by decide)))).other W104 (Or.inl (Exa.ne f111 f107 (by decide))))
      have f114 := (((Ex16.wr W96).wr W102).wr W104)
      obtain ⟨_, _, ⟨T115, L115, k115, n115⟩, -, X115, ⟨Lc115, hQ115, l115, y115, z115⟩, st115⟩ := Jvm.LawKit.callS X104 hx (y := (⟨"java/lang/Long", "bitCount", "(J)I"⟩ : MethodName)) hown (mvT hZ (hw _ (List.mem_of_getElem? (i := 164) rfl))) (mvT hZ (hw _ (List.mem_of_getElem? (i := 165) rfl))) (mvT hZ (hw _ (List.mem_of_getElem? (i := 166) rfl))) (mvT hZ (hw _ (List.mem_of_getElem? (i := 167) rfl))) (by decide) (backOf (W := 1) (rm33 l Z a0 hw [] (0 : Int64) (0 : Int32) h104 n0 (Nat.le_trans Z0 K104.1) (by decide +kernel)) hZ (hw _ (List.mem_of_getElem? (i := 167) rfl)) (hw _ (List.mem_of_getElem? (i := 166) rfl)) (by decide) (by decide)) (g := (mkF m 194 #[rv r0, rv r1, rv b16, .val (.long (0 : Int64)), .second, .val (.long (0 : Int64)), .second, iv (1 : Int32), iv ch, .unset] [(.long (0 : Int64)), (.int (1 : Int32))])) rfl (by rw [hml]; rfl) (argsL := [(.long (0 : Int64))]) (rest := [(.int (1 : Int32))]) (lenOf pd25 rfl) rfl (by show 2 * 0 + _ ≤ _; exact Nat.le_of_eq rfl) (hb hby d28_194) (fun _ _ => ⟨rfl, e104, (by decide : 2 + 0 ≤ _), (by decide : 2 + 0 ≤ _)⟩)
      dsimp only [Pt.U, Pt.locs, Pt.cells, Pt.slots] at X115 l115 y115 z115 st115 hQ115
      subst l115 y115 z115
      obtain ⟨rfl, N115q, hh115⟩ := hQ115
      have N115 := Fr.app N104 N115q
      have pre116 : ∀ t, Steps p.tables e below (T115.setTop (mkF m 200 #[rv r0, rv r1, rv b16, .val (.long (0 : Int64)), .second, .val (.long (0 : Int64)), .second, iv (1 : Int32), iv ch, .unset] [(.long (0 : Int64)), (.int (1 : Int32))])) t → Steps p.tables e below (s₁.setTop (entryFrame m #[(.ref r0), (.ref r1)] 10)) t := by
        intro t kt
        refine pre105 _ ?_
        show Steps p.tables e below (T104.setTop (mkF m 194 #[rv r0, rv r1, rv b16, .val (.long (0 : Int64)), .second, .val (.long (0 : Int64)), .second, iv (1 : Int32), iv ch, .unset] [(.long (0 : Int64)), (.int (1 : Int32))])) _
        refine st115 _ ?_
        show Steps p.tables e below (T115.setTop (mkF m 197 #[rv r0, rv r1, rv b16, .val (.long (0 : Int64)), .second, .val (.long (0 : Int64)), .second, iv (1 : Int32), iv ch, .unset] [(.int (0 : Int32)), (.int (1 : Int32))])) _
        refine XS.iadd X115.here hx rfl (hb hby d28_197) rfl ?_
        show Steps p.tables e below (T115.setTop (mkF m 198 #[rv r0, rv r1, rv b16, .val (.long (0 : Int64)), .second, .val (.long (0 : Int64)), .second, iv (1 : Int32), iv ch, .unset] [(.int ((1 : Int32) + (0 : Int32)))])) _
        rw [show ((1 : Int32) + (0 : Int32)) = (1 : Int32) from (by decide)]
        show Steps p.tables e below (T115.setTop (mkF m 198 #[rv r0, rv r1, rv b16, .val (.long (0 : Int64)), .second, .val (.long (0 : Int64)), .second, iv (1 : Int32), iv ch, .unset] [(.int (1 : Int32))])) _
        refine XS.lload X115.here hx rfl (hb hby d28_198) rfl ?_
        exact kt
      obtain ⟨_, _, ⟨T117, L117, k117, n117⟩, -, X117, ⟨Lc117, hQ117, l117, y117, z117⟩, st117⟩ := Jvm.LawKit.callS X115 hx (y := (⟨"java/lang/Long", "bitCount", "(J)I"⟩ : MethodName)) hown (mvT hZ (hw _ (List.mem_of_getElem? (i := 164) rfl))) (mvT hZ (hw _ (List.mem_of_getElem? (i := 165) rfl))) (mvT hZ (hw _ (List.mem_of_getElem? (i := 166) rfl))) (mvT hZ (hw _ (List.mem_of_getElem? (i := 167) rfl))) (by decide) (backOf (W := 1) (rm33 l Z a0 hw [] (0 : Int64) (0 : Int32) h104 n0 (Nat.le_trans Z0 K104.1) (by decide +kernel)) hZ (hw _ (List.mem_of_getElem? (i := 167) rfl)) (hw _ (List.mem_of_getElem? (i := 166) rfl)) (by decide) (by decide)) (g := (mkF m 200 #[rv r0, rv r1, rv b16, .val (.long (0 : Int64)), .second, .val (.long (0 : Int64)), .second, iv (1 : Int32), iv ch, .unset] [(.long (0 : Int64)), (.int (1 : Int32))])) rfl (by rw [hml]; rfl) (argsL := [(.long (0 : Int64))]) (rest := [(.int (1 : Int32))]) (lenOf pd25 rfl) rfl (by show 2 * 0 + _ ≤ _; exact Nat.le_of_eq rfl) (hb hby d28_200) (fun _ _ => ⟨rfl, hh115, (by decide : 2 + 0 ≤ _), (by decide : 2 + 0 ≤ _)⟩)
      dsimp only [Pt.U, Pt.locs, Pt.cells, Pt.slots] at X117 l117 y117 z117 st117 hQ117
      subst l117 y117 z117
      obtain ⟨rfl, N117q, hh117⟩ := hQ117
      have N117 := Fr.app N115 N117q
      have pre118 : ∀ t, Steps p.tables e below (T117.setTop (mkF m 210 #[rv r0, rv r1, rv b16, .val (.long (0 : Int64)), .second, .val (.long (0 : Int64)), .second, iv (1 : Int32), iv ch, .unset] [(.ref r0), (.int (1 : Int32)), (.ref r0)])) t → Steps p.tables e below (s₁.setTop (entryFrame m #[(.ref r0), (.ref r1)] 10)) t := by
        intro t kt
        refine pre116 _ ?_
        show Steps p.tables e below (T115.setTop (mkF m 200 #[rv r0, rv r1, rv b16, .val (.long (0 : Int64)), .second, .val (.long (0 : Int64)), .second, iv (1 : Int32), iv ch, .unset] [(.long (0 : Int64)), (.int (1 : Int32))])) _
        refine st117 _ ?_
        show Steps p.tables e below (T117.setTop (mkF m 203 #[rv r0, rv r1, rv b16, .val (.long (0 : Int64)), .second, .val (.long (0 : Int64)), .second, iv (1 : Int32), iv ch, .unset] [(.int (0 : Int32)), (.int (1 : Int32))])) _
        refine XS.iadd X117.here hx rfl (hb hby d28_203) rfl ?_
        show Steps p.tables e below (T117.setTop (mkF m 204 #[rv r0, rv r1, rv b16, .val (.long (0 : Int64)), .second, .val (.long (0 : Int64)), .second, iv (1 : Int32), iv ch, .unset] [(.int ((1 : Int32) + (0 : Int32)))])) _
        rw [show ((1 : Int32) + (0 : Int32)) = (1 : Int32) from (by decide)]
        show Steps p.tables e below (T117.setTop (mkF m 204 #[rv r0, rv r1, rv b16, .val (.long (0 : Int64)), .second, .val (.long (0 : Int64)), .second, iv (1 : Int32), iv ch, .unset] [(.int (1 : Int32))])) _
        refine XS.istore X117.here hx rfl (hb hby d28_204) rfl (l' := #[rv r0, rv r1, rv b16, .val (.long (0 : Int64)), .second, .val (.long (0 : Int64)), .second, iv (1 : Int32), iv ch, .unset]) rfl ?_
        refine XS.aloadN X117.here hx rfl (hb hby d28_206) rfl rfl ?_
        refine XS.iload X117.here hx rfl (hb hby d28_207) rfl ?_
        refine XS.aloadN X117.here hx rfl (hb hby d28_209) rfl rfl ?_
        exact kt
      obtain ⟨T119, X119, e119, st119⟩ := getF X117 hx hZ hown (host := "") (Or.inl (hw _ (List.mem_of_getElem? (i := 139) rfl))) Via.refl hh117 f108 (g := (mkF m 210 #[rv r0, rv r1, rv b16, .val (.long (0 : Int64)), .second, .val (.long (0 : Int64)), .second, iv (1 : Int32), iv ch, .unset] [(.ref r0), (.int (1 : Int32)), (.ref r0)])) rfl rfl (hb hby d28_210)
      have pre120 : ∀ t, Steps p.tables e below (T119.setTop (mkF m 214 #[rv r0, rv r1, rv b16, .val (.long (0 : Int64)), .second, .val (.long (0 : Int64)), .second, iv (1 : Int32), iv ch, .unset] [(.int (1 : Int32)), (.ref r0)])) t → Steps p.tables e below (s₁.setTop (entryFrame m #[(.ref r0), (.ref r1)] 10)) t := by
        intro t kt
        refine pre118 _ ?_
        show Steps p.tables e below (T117.setTop (mkF m 210 #[rv r0, rv r1, rv b16, .val (.long (0 : Int64)), .second, .val (.long (0 : Int64)), .second, iv (1 : Int32), iv ch, .unset] [(.ref r0), (.int (1 : Int32)), (.ref r0)])) _
        refine st119 _ ?_
        show Steps p.tables e below (T119.setTop (mkF m 213 #[rv r0, rv r1, rv b16, .val (.long (0 : Int64)), .second, .val (.long (0 : Int64)), .second, iv (1 : Int32), iv ch, .unset] [(.int (1 : Int32)), (.int (1 : Int32)), (.ref r0)])) _
        refine XS.imul X119.here hx rfl (hb hby d28_213) rfl ?_
        show Steps p.tables e below (T119.setTop (mkF m 214 #[rv r0, rv r1, rv b16, .val (.long (0 : Int64)), .second, .val (.long (0 : Int64)), .second, iv (1 : Int32), iv ch, .unset] [(.int ((1 : Int32) * (1 : Int32))), (.ref r0)])) _
        rw [show ((1 : Int32) * (1 : Int32)) = (1 : Int32) from (by decide)]
        exact kt
      obtain ⟨T121, h121, k121, X121, e121, E121, A121, Ex121, st121⟩ := newPE X119 hx hZ (hw _ (List.mem_of_getElem? (i := 141) rfl)) e119 (g := (mkF m 214 #[rv r0, rv r1, rv b16, .val (.long (0 : Int64)), .second, .val (.long (0 : Int64)), .second, iv (1 : Int32), iv ch, .unset] [(.int (1 : Int32)), (.ref r0)])) rfl (hb hby d28_214) rfl (by decide) (cap := 1) (by decide) (by decide) (by decide) (by decide) (ad := "[J") rfl
      obtain ⟨b121, g121⟩ : ∃ z, z = h104.size := ⟨_, rfl⟩
      rw [← g121] at A121 Ex121 st121
      have g_b121 : n0 ≤ b121 := Nat.le_trans (Nat.le_trans Z0 K104.1) (Nat.le_of_eq g121.symm)
      have sz_b121 : h0.size ≤ b121 := Nat.le_trans K104.1 (Nat.le_of_eq g121.symm)
      have V_b121 : Arv Z h121 b121 k121 .long (1 : Int32) [(.long (0 : Int64))] (.long (0 : Int64)) := (Arv.new A121 (by decide)).pad (pad_rep [] (.long (0 : Int64)) 1)
      have K121 : Keep h0 h121 [r0] := K104.ext E121
      have pre122 : ∀ t, Steps p.tables e below (T121.setTop (mkF m 216 #[rv r0, rv r1, rv b16, .val (.long (0 : Int64)), .second, .val (.long (0 : Int64)), .second, iv (1 : Int32), iv ch, .unset] [(.ref b121), (.ref r0)])) t → Steps p.tables e below (s₁.setTop (entryFrame m #[(.ref r0), (.ref r1)] 10)) t := by
        intro t kt
        refine pre120 _ ?_
        show Steps p.tables e below (T119.setTop (mkF m 214 #[rv r0, rv r1, rv b16, .val (.long (0 : Int64)), .second, .val (.long (0 : Int64)), .second, iv (1 : Int32), iv ch, .unset] [(.int (1 : Int32)), (.ref r0)])) _
        refine st121 _ ?_
        exact kt
      obtain ⟨T123, h123, X123, e123, W123, st123⟩ := putF X121 hx hZ hown (host := "") (Or.inl (hw _ (List.mem_of_getElem? (i := 171) rfl))) Via.refl e121 (f109.ext E121) (f107.ext E121) (Or.inr ⟨(hw _ (List.mem_of_getElem? (i := 172) rfl)), rfl, hnm⟩) (hw _ (List.mem_of_getElem? (i := 132) rfl)) (ty := (.array .long)) (by decide) rfl rfl (g := (mkF m 216 #[rv r0, rv r1, rv b16, .val (.long (0 : Int64)), .second, .val (.long (0 : Int64)), .second, iv (1 : Int32), iv ch, .unset] [(.ref b121), (.ref r0)])) rfl rfl (hb hby d28_216)
      have Fw123 : Fld Z h123 r0 "com/example/subject/subject/model/Wildcards$Places" "fits" "[J" (.ref b121) := (f109.ext E121).same W123
      have K123 : Keep h0 h123 [r0] := K121.wr W123 (Or.inl (List.mem_of_getElem? (i := 0) rfl))
      have N123 := Fr.snoc X123 N117 g_r0
      have pre124 : ∀ t, Steps p.tables e below (T123.setTop (mkF m 232 #[rv r0, rv r1, rv b16, .val (.long (0 : Int64)), .second, .val (.long (0 : Int64)), .second, iv (1 : Int32), iv (0 : Int32), .unset] [(.ref r0), (.int (0 : Int32)), (.ref b16)])) t → Steps p.tables e below (s₁.setTop (entryFrame m #[(.ref r0), (.ref r1)] 10)) t := by
        intro t kt
        refine pre122 _ ?_
        show Steps p.tables e below (T121.setTop (mkF m 216 #[rv r0, rv r1, rv b16, .val (.long (0 : Int64)), .second, .val (.long (0 : Int64)), .second, iv (1 : Int32), iv ch, .unset] [(.ref b121), (.ref r0)])) _
        refine st123 _ ?_
        show Steps p.tables e below (T123.setTop (mkF m 219 #[rv r0, rv r1, rv b16, .val (.long (0 : Int64)), .second, .val (.long (0 : Int64)), .second, iv (1 : Int32), iv ch, .unset] [])) _
        refine XS.iconst X123.here hx rfl (hb hby d28_219) ?_
        refine XS.istore X123.here hx rfl (hb hby d28_220) rfl (l' := #[rv r0, rv r1, rv b16, .val (.long (0 : Int64)), .second, .val (.long (0 : Int64)), .second, iv (1 : Int32), iv (0 : Int32), .unset]) rfl ?_
        refine XS.iload X123.here hx rfl (hb hby d28_222) rfl ?_
        refine XS.iload X123.here hx rfl (hb hby d28_224) rfl ?_
        refine XS.icmpNo X123.here hx rfl (hb hby d28_226) rfl (tlt (by decide)).2.1 ?_
        refine XS.aloadN X123.here hx rfl (hb hby d28_229) rfl rfl ?_
        refine XS.iconst X123.here hx rfl (hb hby d28_230) ?_
        refine XS.aloadN X123.here hx rfl (hb hby d28_231) rfl rfl ?_
        exact kt
      obtain ⟨T125, X125, e125, st125⟩ := getF X123 hx hZ hown (host := "") (Or.inl (hw _ (List.mem_of_getElem? (i := 171) rfl))) Via.refl e123 Fw123 (g := (mkF m 232 #[rv r0, rv r1, rv b16, .val (.long (0 : Int64)), .second, .val (.long (0 : Int64)), .second, iv (1 : Int32), iv (0 : Int32), .unset] [(.ref r0), (.int (0 : Int32)), (.ref b16)])) rfl rfl (hb hby d28_232)
      have pre126 : ∀ t, Steps p.tables e below (T125.setTop (mkF m 238 #[rv r0, rv r1, rv b16, .val (.long (0 : Int64)), .second, .val (.long (0 : Int64)), .second, iv (1 : Int32), iv (0 : Int32), .unset] [(.ref r0), (.int (0 : Int32)), (.ref b121), (.int (0 : Int32)), (.ref b16)])) t → Steps p.tables e below (s₁.setTop (entryFrame m #[(.ref r0), (.ref r1)] 10)) t := by
        intro t kt
        refine pre124 _ ?_
        show Steps p.tables e below (T123.setTop (mkF m 232 #[rv r0, rv r1, rv b16, .val (.long (0 : Int64)), .second, .val (.long (0 : Int64)), .second, iv (1 : Int32), iv (0 : Int32), .unset] [(.ref r0), (.int (0 : Int32)), (.ref b16)])) _
        refine st125 _ ?_
        show Steps p.tables e below (T125.setTop (mkF m 235 #[rv r0, rv r1, rv b16, .val (.long (0 : Int64)), .second, .val (.long (0 : Int64)), .second, iv (1 : Int32), iv (0 : Int32), .unset] [(.ref b121), (.int (0 : Int32)), (.ref b16)])) _
        refine XS.iload X125.here hx rfl (hb hby d28_235) rfl ?_
        refine XS.aloadN X125.here hx rfl (hb hby d28_237) rfl rfl ?_
        exact kt
      obtain ⟨T127, X127, e127, st127⟩ := getF X125 hx hZ hown (host := "") (Or.inl (hw _ (List.mem_of_getElem? (i := 139) rfl))) Via.refl e125 ((f108.ext E121).other W123 (Or.inr (slot_ne (Or.inr (hw _ (List.mem_of_getElem? (i := 140) rfl))) (Or.inr (hw _ (List.mem_of_getElem? (i := 172) rfl))) (by decide) (t := .int) (t' := (.array .long)) (by decide) (by decide)))) (g := (mkF m 238 #[rv r0, rv r1, rv b16, .val (.long (0 : Int64)), .second, .val (.long (0 : Int64)), .second, iv (1 : Int32), iv (0 : Int32), .unset] [(.ref r0), (.int (0 : Int32)), (.ref b121), (.int (0 : Int32)), (.ref b16)])) rfl rfl (hb hby d28_238)
      have pre128 : ∀ t, Steps p.tables e below (T127.setTop (mkF m 243 #[rv r0, rv r1, rv b16, .val (.long (0 : Int64)), .second, .val (.long (0 : Int64)), .second, iv (1 : Int32), iv (0 : Int32), .unset] [(.ref r0), (.int (0 : Int32)), (.ref b121), (.int (0 : Int32)), (.ref b16)])) t → Steps p.tables e below (s₁.setTop (entryFrame m #[(.ref r0), (.ref r1)] 10)) t := by
        intro t kt
        refine pre126 _ ?_
        show Steps p.tables e below (T125.setTop (mkF m 238 #[rv r0, rv r1, rv b16, .val (.long (0 : Int64)), .second, .val (.long (0 : Int64)), .second, iv (1 : Int32), iv (0 : Int32), .unset] [(.ref r0), (.int (0 : Int32)), (.ref b121), (.int (0 : Int32)), (.ref b16)])) _
        refine st127 _ ?_
        show Steps p.tables e below (T127.setTop (mkF m 241 #[rv r0, rv r1, rv b16, .val (.long (0 : Int64)), .second, .val (.long (0 : Int64)), .second, iv (1 : Int32), iv (0 : Int32), .unset] [(.int (1 : Int32)), (.int (0 : Int32)), (.ref b121), (.int (0 : Int32)), (.ref b16)])) _
        refine XS.imul X127.here hx rfl (hb hby d28_241) rfl ?_
        show Steps p.tables e below (T127.setTop (mkF m 242 #[rv r0, rv r1, rv b16, .val (.long (0 : Int64)), .second, .val (.long (0 : Int64)), .second, iv (1 : Int32), iv (0 : Int32), .unset] [(.int ((0 : Int32) * (1 : Int32))), (.ref b121), (.int (0 : Int32)), (.ref b16)])) _
        rw [show ((0 : Int32) * (1 : Int32)) = (0 : Int32) from (by decide)]
        show Steps p.tables e below (T127.setTop (mkF m 242 #[rv r0, rv r1, rv b16, .val (.long (0 : Int64)), .second, .val (.long (0 : Int64)), .second, iv (1 : Int32), iv (0 : Int32), .unset] [(.int (0 : Int32)), (.ref b121), (.int (0 : Int32)), (.ref b16)])) _
        refine XS.aloadN X127.here hx rfl (hb hby d28_242) rfl rfl ?_
        exact kt
      obtain ⟨T129, X129, e129, st129⟩ := getF X127 hx hZ hown (host := "") (Or.inl (hw _ (List.mem_of_getElem? (i := 139) rfl))) Via.refl e127 ((f108.ext E121).other W123 (Or.inr (slot_ne (Or.inr (hw _ (List.mem_of_getElem? (i := 140) rfl))) (Or.inr (hw _ (List.mem_of_getElem? (i := 172) rfl))) (by decide) (t := .int) (t' := (.array .long)) (by decide) (by decide)))) (g := (mkF m 243 #[rv r0, rv r1, rv b16, .val (.long (0 : Int64)), .second, .val (.long (0 : Int64)), .second, iv (1 : Int32), iv (0 : Int32), .unset] [(.ref r0), (.int (0 : Int32)), (.ref b121), (.int (0 : Int32)), (.ref b16)])) rfl rfl (hb hby d28_243)
      have pre130 : ∀ t, Steps p.tables e below (T129.setTop (mkF m 246 #[rv r0, rv r1, rv b16, .val (.long (0 : Int64)), .second, .val (.long (0 : Int64)), .second, iv (1 : Int32), iv (0 : Int32), .unset] [(.int (1 : Int32)), (.int (0 : Int32)), (.ref b121), (.int (0 : Int32)), (.ref b16)])) t → Steps p.tables e below (s₁.setTop (entryFrame m #[(.ref r0), (.ref r1)] 10)) t := by
        intro t kt
        refine pre128 _ ?_
        show Steps p.tables e below (T127.setTop (mkF m 243 #[rv r0, rv r1, rv b16, .val (.long (0 : Int64)), .second, .val (.long (0 : Int64)), .second, iv (1 : Int32), iv (0 : Int32), .unset] [(.ref r0), (.int (0 : Int32)), (.ref b121), (.int (0 : Int32)), (.ref b16)])) _
        refine st129 _ ?_
        exact kt
      have f131 := (((Fw102.other W104 (Or.inr (slot_ne (Or.inr (hw _ (List.mem_of_getElem? (i := 161) rfl))) (Or.inr (hw _ (List.mem_of_getElem? (i := 163) rfl))) (by decide) (t := .long) (t' := .long) (by decide) (by decide)))).ext E121).other W123 (Or.inr (slot_ne (Or.inr (hw _ (List.mem_of_getElem? (i := 161) rfl))) (Or.inr (hw _ (List.mem_of_getElem? (i := 172) rfl))) (by decide) (t := .long) (t' := (.array .long)) (by decide) (by decide))))
      have f132 := ((((f98.other W102 (Exa.ne ((((f99.wr W102).wr W104).ext E121).wr W123) ((f107.ext E121).wr W123) (by decide))).other W104 (Exa.ne ((((f99.wr W102).wr W104).ext E121).wr W123) ((f107.ext E121).wr W123) (by decide))).ext E121).other W123 (Exa.ne ((((f99.wr W102).wr W104).ext E121).wr W123) ((f107.ext E121).wr W123) (by decide)))
      have f133 := ((((f99.wr W102).wr W104).ext E121).wr W123)
      have f134 := ((((V96.other W102 (Exa.ne ((f114.ext E121).wr W123) ((f107.ext E121).wr W123) (by decide))).other W104 (Exa.ne ((f114.ext E121).wr W123) ((f107.ext E121).wr W123) (by decide))).ext E121).other W123 (Exa.ne ((f114.ext E121).wr W123) ((f107.ext E121).wr W123) (by decide)))
      obtain ⟨T135, h135, L135, X135, e135, N135, Kc135, Vc135, st135⟩ := cpA X129 hx hZ hown (hw _ (List.mem_of_getElem? (i := 173) rfl)) (hw _ (List.mem_of_getElem? (i := 176) rfl)) (hw _ (List.mem_of_getElem? (i := 174) rfl)) (hw _ (List.mem_of_getElem? (i := 175) rfl)) e129 f134 (V_b121.other W123 (Exa.ne (Ex121.wr W123) ((f107.ext E121).wr W123) (by decide))) (Or.inl ⟨rfl, rfl⟩) (by decide) (by decide) (by decide) (by decide) (by decide) rfl (by decide) N123 g_b121 (g := (mkF m 246 #[rv r0, rv r1, rv b16, .val (.long (0 : Int64)), .second, .val (.long (0 : Int64)), .second, iv (1 : Int32), iv (0 : Int32), .unset] [(.int (1 : Int32)), (.int (0 : Int32)), (.ref b121), (.int (0 : Int32)), (.ref b16)])) rfl (by rw [hml]; rfl) rfl (hb hby d28_246) (by decide) (W := 0) (by show 2 * 0 + _ ≤ _; exact Nat.le_of_eq rfl) (by decide)
      have K135 : Keep h0 h135 [r0] := K123.trans Kc135 (allS (Or.inr sz_b121) all0)
      have V135 : Arv Z h135 b121 k121 .long (1 : Int32) [(.long (1 : Int64))] (.long (0 : Int64)) := Vc135
      have pre136 : ∀ t, Steps p.tables e below (T135.setTop (mkF m 261 #[rv r0, rv r1, rv b16, .val (.long (0 : Int64)), .second, .val (.long (0 : Int64)), .second, iv (1 : Int32), iv (0 : Int32), .unset] [(.ref r1), (.int (0 : Int32))])) t → Steps p.tables e below (s₁.setTop (entryFrame m #[(.ref r0), (.ref r1)] 10)) t := by
        intro t kt
        refine pre130 _ ?_
        show Steps p.tables e below (T129.setTop (mkF m 246 #[rv r0, rv r1, rv b16, .val (.long (0 : Int64)), .second, .val (.long (0 : Int64)), .second, iv (1 : Int32), iv (0 : Int32), .unset] [(.int (1 : Int32)), (.int (0 : Int32)), (.ref b121), (.int (0 : Int32)), (.ref b16)])) _
        refine st135 _ ?_
        show Steps p.tables e below (T135.setTop (mkF m 249 #[rv r0, rv r1, rv b16, .val (.long (0 : Int64)), .second, .val (.long (0 : Int64)), .second, iv (1 : Int32), iv (0 : Int32), .unset] [])) _
        refine XS.iinc X135.here hx rfl (hb hby d28_249) rfl (l' := #[rv r0, rv r1, rv b16, .val (.long (0 : Int64)), .second, .val (.long (0 : Int64)), .second, iv (1 : Int32), iv ((0 : Int32) + (1 : Int32)), .unset]) rfl ?_
        show Steps p.tables e below (T135.setTop (mkF m 252 #[rv r0, rv r1, rv b16, .val (.long (0 : Int64)), .second, .val (.long (0 : Int64)), .second, iv (1 : Int32), iv ((0 : Int32) + (1 : Int32)), .unset] [])) _
        rw [show ((0 : Int32) + (1 : Int32)) = (1 : Int32) from (by decide)]
        show Steps p.tables e below (T135.setTop (mkF m 252 #[rv r0, rv r1, rv b16, .val (.long (0 : Int64)), .second, .val (.long (0 : Int64)), .second, iv (1 : Int32), iv (1 : Int32), .unset] [])) _
        refine XS.goto X135.here hx rfl (pc0 := 252) (pc' := 222) rfl (hb hby d28_252) (by decide) (by decide) ?_
        refine XS.iload X135.here hx rfl (hb hby d28_222) rfl ?_
        refine XS.iload X135.here hx rfl (hb hby d28_224) rfl ?_
        refine XS.icmpYes X135.here hx rfl (pc0 := 226) (pc' := 255) rfl (hb hby d28_226) rfl (flt (by decide)).2.1 (by decide) (by decide) ?_
        refine XS.iconst X135.here hx rfl (hb hby d28_255) ?_
        refine XS.istore X135.here hx rfl (hb hby d28_256) rfl (l' := #[rv r0, rv r1, rv b16, .val (.long (0 : Int64)), .second, .val (.long (0 : Int64)), .second, iv (1 : Int32), iv (0 : Int32), .unset]) rfl ?_
        refine XS.iload X135.here hx rfl (hb hby d28_258) rfl ?_
        refine XS.aloadN X135.here hx rfl (hb hby d28_260) rfl rfl ?_
        exact kt
      have f137 := (((f106.ext E121).other W123 (Ne.symm (Exa.neArv f107 f106 (hw _ (List.mem_of_getElem? (i := 132) rfl))))).keep Kc135 (ninS (Nat.ne_of_lt (Nat.lt_of_lt_of_le f106.lt (Nat.le_of_eq g121.symm))) nin0))
      have f138 := (((f107.ext E121).wr W123).keep Kc135)
      have f139 := (((f108.ext E121).other W123 (Or.inr (slot_ne (Or.inr (hw _ (List.mem_of_getElem? (i := 140) rfl))) (Or.inr (hw _ (List.mem_of_getElem? (i := 172) rfl))) (by decide) (t := .int) (t' := (.array .long)) (by decide) (by decide)))).keep Kc135 (ninS (Exa.ne f138 ((Ex121.wr W123).keep Kc135) (by decide)) nin0))
      have f140 := (((Fw104.ext E121).other W123 (Or.inr (slot_ne (Or.inr (hw _ (List.mem_of_getElem? (i := 163) rfl))) (Or.inr (hw _ (List.mem_of_getElem? (i := 172) rfl))) (by decide) (t := .long) (t' := (.array .long)) (by decide) (by decide)))).keep Kc135 (ninS (Exa.ne f138 ((Ex121.wr W123).keep Kc135) (by decide)) nin0))
      have f141 := (((f110.ext E121).other W123 (Or.inr (slot_ne (Or.inr (hw _ (List.mem_of_getElem? (i := 143) rfl))) (Or.inr (hw _ (List.mem_of_getElem? (i := 172) rfl))) (by decide) (t := (.array .long)) (t' := (.array .long)) (by decide) (by decide)))).keep Kc135 (ninS (Exa.ne f138 ((Ex121.wr W123).keep Kc135) (by decide)) nin0))
      have f142 := (((f111.ext E121).wr W123).keep Kc135)
      have f143 := (((f112.ext E121).other W123 (Or.inl (Exa.ne f142 f138 (by decide)))).keep Kc135 (ninS (Exa.ne f142 ((Ex121.wr W123).keep Kc135) (by decide)) nin0))
      have f144 := (((f113.ext E121).other W123 (Or.inl (Exa.ne f142 f138 (by decide)))).keep Kc135 (ninS (Exa.ne f142 ((Ex121.wr W123).keep Kc135) (by decide)) nin0))
      have f145 := (((f114.ext E121).wr W123).keep Kc135)
      obtain ⟨cq146, kq146, q146a, q146b, q146c⟩ := isOf hZ e135 f142
      obtain ⟨_, _, ⟨T146, L146, k146, n146⟩, -, X146, ⟨Lc146, hQ146, l146, y146, z146⟩, st146⟩ := X135.virtualBack hx (y := (⟨"java/lang/String", "length", "()I"⟩ : MethodName)) (z := (⟨"java/lang/String", "length", "()I"⟩ : MethodName)) hown (mvT hZ (hw _ (List.mem_of_getElem? (i := 138) rfl))) (mvT hZ (hw _ (List.mem_of_getElem? (i := 94) rfl))) (notFace_of_selects (args := #[]) (mvT hZ (hw _ (List.mem_of_getElem? (i := 96) rfl)))) (mvT hZ (hw _ (List.mem_of_getElem? (i := 96) rfl))) (mvT hZ (hw _ (List.mem_of_getElem? (i := 95) rfl))) (by decide) (backOf (W := 1) (rm19 l Z a0 hw [] r1 va kc ch cs h135 n0 (Nat.le_trans Z0 K135.1) f143 f144 f142 f137 (O0.keep K135 (allS g_r0 all0)) S_cs hcs) hZ (hw _ (List.mem_of_getElem? (i := 97) rfl)) (hw _ (List.mem_of_getElem? (i := 7) rfl)) (by decide) (by decide)) q146a q146c (g := (mkF m 261 #[rv r0, rv r1, rv b16, .val (.long (0 : Int64)), .second, .val (.long (0 : Int64)), .second, iv (1 : Int32), iv (0 : Int32), .unset] [(.ref r1), (.int (0 : Int32))])) rfl (by rw [hml]; rfl) (Steps.refl _) (argsL := []) (rest := [(.int (0 : Int32))]) (lenOf pd21 rfl) rfl (by show 2 * 0 + _ ≤ _; exact Nat.le_of_eq rfl) (hb hby d28_261) (fun _ _ => ⟨rfl, e135, (by decide : 3 + 0 ≤ _), (by decide : 3 + 0 ≤ _)⟩)
      dsimp only [Pt.U, Pt.locs, Pt.cells, Pt.slots] at X146 l146 y146 z146 st146 hQ146
      subst l146 y146 z146
      obtain ⟨rfl, N146q, hh146⟩ := hQ146
      have N146 := Fr.app N135 N146q
      have pre147 : ∀ t, Steps p.tables e below (T146.setTop (mkF m 270 #[rv r0, rv r1, rv b16, .val (.long (0 : Int64)), .second, .val (.long (0 : Int64)), .second, iv (1 : Int32), iv (0 : Int32), .unset] [(.int (0 : Int32)), (.ref r1)])) t → Steps p.tables e below (s₁.setTop (entryFrame m #[(.ref r0), (.ref r1)] 10)) t := by
        intro t kt
        refine pre136 _ ?_
        show Steps p.tables e below (T135.setTop (mkF m 261 #[rv r0, rv r1, rv b16, .val (.long (0 : Int64)), .second, .val (.long (0 : Int64)), .second, iv (1 : Int32), iv (0 : Int32), .unset] [(.ref r1), (.int (0 : Int32))])) _
        refine st146.trans ?_
        show Steps p.tables e below (T146.setTop (mkF m 264 #[rv r0, rv r1, rv b16, .val (.long (0 : Int64)), .second, .val (.long (0 : Int64)), .second, iv (1 : Int32), iv (0 : Int32), .unset] [(.int (1 : Int32)), (.int (0 : Int32))])) _
        refine XS.icmpNo X146.here hx rfl (hb hby d28_264) rfl (tlt (by decide)).2.1 ?_
        refine XS.aloadN X146.here hx rfl (hb hby d28_267) rfl rfl ?_
        refine XS.iload X146.here hx rfl (hb hby d28_268) rfl ?_
        exact kt
      obtain ⟨cq148, kq148, q148a, q148b, q148c⟩ := isOf hZ hh146 f142
      obtain ⟨_, _, ⟨T148, L148, k148, n148⟩, -, X148, ⟨Lc148, hQ148, l148, y148, z148⟩, st148⟩ := X146.virtualBack hx (y := (⟨"java/lang/String", "charAt", "(I)C"⟩ : MethodName)) (z := (⟨"java/lang/String", "charAt", "(I)C"⟩ : MethodName)) hown (mvT hZ (hw _ (List.mem_of_getElem? (i := 144) rfl))) (mvT hZ (hw _ (List.mem_of_getElem? (i := 145) rfl))) (notFace_of_selects (args := #[]) (mvT hZ (hw _ (List.mem_of_getElem? (i := 147) rfl)))) (mvT hZ (hw _ (List.mem_of_getElem? (i := 147) rfl))) (mvT hZ (hw _ (List.mem_of_getElem? (i := 146) rfl))) (by decide) (backOf (W := 0) (rm29 l Z a0 hw [] r1 va kc ch cs fm h135 n0 (Nat.le_trans Z0 K135.1) f143 f144 f142 f137 (O0.keep K135 (allS g_r0 all0)) S_cs hcs S_fm hr_fm hok_ch) hZ (hw _ (List.mem_of_getElem? (i := 148) rfl)) (hw _ (List.mem_of_getElem? (i := 7) rfl)) (by decide) (by decide)) q148a q148c (g := (mkF m 270 #[rv r0, rv r1, rv b16, .val (.long (0 : Int64)), .second, .val (.long (0 : Int64)), .second, iv (1 : Int32), iv (0 : Int32), .unset] [(.int (0 : Int32)), (.ref r1)])) rfl (by rw [hml]; rfl) (Steps.refl _) (argsL := [(.int (0 : Int32))]) (rest := []) (lenOf pd26 rfl) rfl (by show 2 * 0 + _ ≤ _; exact Nat.le_of_eq rfl) (hb hby d28_270) (fun _ _ => ⟨rfl, hh146, (by decide : 3 + 0 ≤ _), (by decide : 3 + 0 ≤ _)⟩)
      dsimp only [Pt.U, Pt.locs, Pt.cells, Pt.slots] at X148 l148 y148 z148 st148 hQ148
      subst l148 y148 z148
      obtain ⟨rfl, N148q, hh148⟩ := hQ148
      have N148 := Fr.app N146 N148q
      have pre149 : ∀ t, Steps p.tables e below (T148.setTop (mkF m 277 #[rv r0, rv r1, rv b16, .val (.long (0 : Int64)), .second, .val (.long (0 : Int64)), .second, iv (1 : Int32), iv (0 : Int32), iv ch] [(.int ch)])) t → Steps p.tables e below (s₁.setTop (entryFrame m #[(.ref r0), (.ref r1)] 10)) t := by
        intro t kt
        refine pre147 _ ?_
        show Steps p.tables e below (T146.setTop (mkF m 270 #[rv r0, rv r1, rv b16, .val (.long (0 : Int64)), .second, .val (.long (0 : Int64)), .second, iv (1 : Int32), iv (0 : Int32), .unset] [(.int (0 : Int32)), (.ref r1)])) _
        refine st148.trans ?_
        show Steps p.tables e below (T148.setTop (mkF m 273 #[rv r0, rv r1, rv b16, .val (.long (0 : Int64)), .second, .val (.long (0 : Int64)), .second, iv (1 : Int32), iv (0 : Int32), .unset] [(.int ch)])) _
        refine XS.istore X148.here hx rfl (hb hby d28_273) rfl (l' := #[rv r0, rv r1, rv b16, .val (.long (0 : Int64)), .second, .val (.long (0 : Int64)), .second, iv (1 : Int32), iv (0 : Int32), iv ch]) rfl ?_
        refine XS.iload X148.here hx rfl (hb hby d28_275) rfl ?_
        exact kt
      obtain ⟨_, _, ⟨T150, L150, k150, n150⟩, -, X150, ⟨Lc150, hQ150, l150, y150, z150⟩, st150⟩ := Jvm.LawKit.callS X148 hx (y := (⟨"com/example/subject/subject/model/Wildcards", "isWildcard", "(I)Z"⟩ : MethodName)) hown (mvT hZ (hw _ (List.mem_of_getElem? (i := 177) rfl))) (mvT hZ (hw _ (List.mem_of_getElem? (i := 2) rfl))) (mvT hZ (hw _ (List.mem_of_getElem? (i := 3) rfl))) (mvT hZ (hw _ (List.mem_of_getElem? (i := 4) rfl))) (by decide) (backOf (W := 0) (rm1 l Z a0 hw [] ch (1 : Int32) h135 n0 (Nat.le_trans Z0 K135.1) (by rw [hc98]; decide)) hZ (hw _ (List.mem_of_getElem? (i := 4) rfl)) (hw _ (List.mem_of_getElem? (i := 3) rfl)) (by decide) (by decide)) (g := (mkF m 277 #[rv r0, rv r1, rv b16, .val (.long (0 : Int64)), .second, .val (.long (0 : Int64)), .second, iv (1 : Int32), iv (0 : Int32), iv ch] [(.int ch)])) rfl (by rw [hml]; rfl) (argsL := [(.int ch)]) (rest := []) (lenOf pd18 rfl) rfl (by show 2 * 0 + _ ≤ _; exact Nat.le_of_eq rfl) (hb hby d28_277) (fun _ _ => ⟨rfl, hh148, (by decide : 3 + 0 ≤ _), (by decide : 3 + 0 ≤ _)⟩)
      dsimp only [Pt.U, Pt.locs, Pt.cells, Pt.slots] at X150 l150 y150 z150 st150 hQ150
      subst l150 y150 z150
      obtain ⟨rfl, N150q, hh150⟩ := hQ150
      have N150 := Fr.app N148 N150q
      have pre151 : ∀ t, Steps p.tables e below (T150.setTop (mkF m 261 #[rv r0, rv r1, rv b16, .val (.long (0 : Int64)), .second, .val (.long (0 : Int64)), .second, iv (1 : Int32), iv (1 : Int32), iv ch] [(.ref r1), (.int (1 : Int32))])) t → Steps p.tables e below (s₁.setTop (entryFrame m #[(.ref r0), (.ref r1)] 10)) t := by
        intro t kt
        refine pre149 _ ?_
        show Steps p.tables e below (T148.setTop (mkF m 277 #[rv r0, rv r1, rv b16, .val (.long (0 : Int64)), .second, .val (.long (0 : Int64)), .second, iv (1 : Int32), iv (0 : Int32), iv ch] [(.int ch)])) _
        refine st150 _ ?_
        show Steps p.tables e below (T150.setTop (mkF m 280 #[rv r0, rv r1, rv b16, .val (.long (0 : Int64)), .second, .val (.long (0 : Int64)), .second, iv (1 : Int32), iv (0 : Int32), iv ch] [(.int (1 : Int32))])) _
        refine XS.ifYes X150.here hx rfl (pc0 := 280) (pc' := 315) rfl (hb hby d28_280) rfl ((if0 _ _).trans (feq (by decide)).2) (by decide) (by decide) ?_
        refine XS.iinc X150.here hx rfl (hb hby d28_315) rfl (l' := #[rv r0, rv r1, rv b16, .val (.long (0 : Int64)), .second, .val (.long (0 : Int64)), .second, iv (1 : Int32), iv ((0 : Int32) + (1 : Int32)), iv ch]) rfl ?_
        show Steps p.tables e below (T150.setTop (mkF m 318 #[rv r0, rv r1, rv b16, .val (.long (0 : Int64)), .second, .val (.long (0 : Int64)), .second, iv (1 : Int32), iv ((0 : Int32) + (1 : Int32)), iv ch] [])) _
        rw [show ((0 : Int32) + (1 : Int32)) = (1 : Int32) from (by decide)]
        show Steps p.tables e below (T150.setTop (mkF m 318 #[rv r0, rv r1, rv b16, .val (.long (0 : Int64)), .second, .val (.long (0 : Int64)), .second, iv (1 : Int32), iv (1 : Int32), iv ch] [])) _
        refine XS.goto X150.here hx rfl (pc0 := 318) (pc' := 258) rfl (hb hby d28_318) (by decide) (by decide) ?_
        refine XS.iload X150.here hx rfl (hb hby d28_258) rfl ?_
        refine XS.aloadN X150.here hx rfl (hb hby d28_260) rfl rfl ?_
        exact kt
      obtain ⟨cq152, kq152, q152a, q152b, q152c⟩ := isOf hZ hh150 f142
      obtain ⟨_, _, ⟨T152, L152, k152, n152⟩, -, X152, ⟨Lc152, hQ152, l152, y152, z152⟩, st152⟩ := X150.virtualBack hx (y := (⟨"java/lang/String", "length", "()I"⟩ : MethodName)) (z := (⟨"java/lang/String", "length", "()I"⟩ : MethodName)) hown (mvT hZ (hw _ (List.mem_of_getElem? (i := 138) rfl))) (mvT hZ (hw _ (List.mem_of_getElem? (i := 94) rfl))) (notFace_of_selects (args := #[]) (mvT hZ (hw _ (List.mem_of_getElem? (i := 96) rfl)))) (mvT hZ (hw _ (List.mem_of_getElem? (i := 96) rfl))) (mvT hZ (hw _ (List.mem_of_getElem? (i := 95) rfl))) (by decide) (backOf (W := 1) (rm19 l Z a0 hw [] r1 va kc ch cs h135 n0 (Nat.le_trans Z0 K135.1) f143 f144 f142 f137 (O0.keep K135 (allS g_r0 all0)) S_cs hcs) hZ (hw _ (List.mem_of_getElem? (i := 97) rfl)) (hw _ (List.mem_of_getElem? (i := 7) rfl)) (by decide) (by decide)) q152a q152c (g := (mkF m 261 #[rv r0, rv r1, rv b16, .val (.long (0 : Int64)), .second, .val (.long (0 : Int64)), .second, iv (1 : Int32), iv (1 : Int32), iv ch] [(.ref r1), (.int (1 : Int32))])) rfl (by rw [hml]; rfl) (Steps.refl _) (argsL := []) (rest := [(.int (1 : Int32))]) (lenOf pd21 rfl) rfl (by show 2 * 0 + _ ≤ _; exact Nat.le_of_eq rfl) (hb hby d28_261) (fun _ _ => ⟨rfl, hh150, (by decide : 3 + 0 ≤ _), (by decide : 3 + 0 ≤ _)⟩)
      dsimp only [Pt.U, Pt.locs, Pt.cells, Pt.slots] at X152 l152 y152 z152 st152 hQ152
      subst l152 y152 z152
      obtain ⟨rfl, N152q, hh152⟩ := hQ152
      have N152 := Fr.app N150 N152q
      have pre153 : ∀ t, Steps p.tables e below (T152.setTop (mkF m 321 #[rv r0, rv r1, rv b16, .val (.long (0 : Int64)), .second, .val (.long (0 : Int64)), .second, iv (1 : Int32), iv (1 : Int32), iv ch] [])) t → Steps p.tables e below (s₁.setTop (entryFrame m #[(.ref r0), (.ref r1)] 10)) t := by
        intro t kt
        refine pre151 _ ?_
        show Steps p.tables e below (T150.setTop (mkF m 261 #[rv r0, rv r1, rv b16, .val (.long (0 : Int64)), .second, .val (.long (0 : Int64)), .second, iv (1 : Int32), iv (1 : Int32), iv ch] [(.ref r1), (.int (1 : Int32))])) _
        refine st152.trans ?_
        show Steps p.tables e below (T152.setTop (mkF m 264 #[rv r0, rv r1, rv b16, .val (.long (0 : Int64)), .second, .val (.long (0 : Int64)), .second, iv (1 : Int32), iv (1 : Int32), iv ch] [(.int (1 : Int32)), (.int (1 : Int32))])) _
        refine XS.icmpYes X152.here hx rfl (pc0 := 264) (pc' := 321) rfl (hb hby d28_264) rfl (flt (by decide)).2.1 (by decide) (by decide) ?_
        exact kt
      obtain ⟨fs, hr, hrun, hended, hW, hsame⟩ := X152.leave (v := none) (fun _ => rfl)
      refine ⟨_, _, pre153 _ ?_, hrun, hended, _, _, rfl, ?_, ⟨_, rfl⟩, hW, hsame.mono (by decide) (by decide)⟩
      · show Steps p.tables e below (T152.setTop (mkF m 321 #[rv r0, rv r1, rv b16, .val (.long (0 : Int64)), .second, .val (.long (0 : Int64)), .second, iv (1 : Int32), iv (1 : Int32), iv ch] [])) _
        exact X152.returnOut hx Bd.returns (hb hby d28_321) hr
      · show Q28 Z r0 r1 va kc ch cs fm h0 n0 _ T152.heap _
        rw [hh152]
        exact ⟨rfl, N152, K135⟩
    · have pre154 : ∀ t, Steps p.tables e below (T29.setTop (mkF m 125 #[rv r0, rv r1, rv b16, .val (.long (0 : Int64)), .second, .val (.long (0 : Int64)), .second, iv (0 : Int32), iv ch, .unset] [(.int (64 : Int32)), (.int ch)])) t → Steps p.tables e below (s₁.setTop (entryFrame m #[(.ref r0), (.ref r1)] 10)) t := by
        intro t kt
        refine pre93 _ ?_
        show Steps p.tables e below (T29.setTop (mkF m 98 #[rv r0, rv r1, rv b16, .val (.long (0 : Int64)), .second, .val (.long (0 : Int64)), .second, iv (0 : Int32), iv ch, .unset] [(.int (63 : Int32)), (.int ch)])) _
        refine XS.icmpYes X29.here hx rfl (pc0 := 98) (pc' := 121) rfl (hb hby d28_98) rfl (feq hc98).2 (by decide) (by decide) ?_
        refine XS.iload X29.here hx rfl (hb hby d28_121) rfl ?_
        refine XS.bipush X29.here hx rfl (hb hby d28_123) ?_
        exact kt
      by_cases hc125 : ch < (64 : Int32)
      · have pre155 : ∀ t, Steps p.tables e below (T29.setTop (mkF m 50 #[rv r0, rv r1, rv b16, .val (.long (own_bit ch)), .second, .val (.long (0 : Int64)), .second, iv (1 : Int32), iv ch, .unset] [(.ref r1), (.int (1 : Int32))])) t → Steps p.tables e below (s₁.setTop (entryFrame m #[(.ref r0), (.ref r1)] 10)) t := by
          intro t kt
          refine pre154 _ ?_
          show Steps p.tables e below (T29.setTop (mkF m 125 #[rv r0, rv r1, rv b16, .val (.long (0 : Int64)), .second, .val (.long (0 : Int64)), .second, iv (0 : Int32), iv ch, .unset] [(.int (64 : Int32)), (.int ch)])) _
          refine XS.icmpNo X29.here hx rfl (hb hby d28_125) rfl (tlt hc125).2.1 ?_
          refine XS.lloadN X29.here hx rfl (hb hby d28_128) rfl ?_
          refine XS.lconst X29.here hx rfl (hb hby d28_129) ?_
          refine XS.iload X29.here hx rfl (hb hby d28_130) rfl ?_
          refine XS.lshl X29.here hx rfl (hb hby d28_132) rfl ?_
          refine XS.lor X29.here hx rfl (hb hby d28_133) rfl ?_
          show Steps p.tables e below (T29.setTop (mkF m 134 #[rv r0, rv r1, rv b16, .val (.long (0 : Int64)), .second, .val (.long (0 : Int64)), .second, iv (0 : Int32), iv ch, .unset] [(.long ((0 : Int64) ||| ((1 : Int64) <<< (ch &&& 0x3f).toInt64)))])) _
          rw [show ((0 : Int64) ||| ((1 : Int64) <<< (ch &&& 0x3f).toInt64)) = (own_bit ch) from rfl]
          show Steps p.tables e below (T29.setTop (mkF m 134 #[rv r0, rv r1, rv b16, .val (.long (0 : Int64)), .second, .val (.long (0 : Int64)), .second, iv (0 : Int32), iv ch, .unset] [(.long (own_bit ch))])) _
          refine XS.lstoreN X29.here hx rfl (hb hby d28_134) rfl (l' := #[rv r0, rv r1, rv b16, .val (.long (own_bit ch)), .second, .val (.long (0 : Int64)), .second, iv (0 : Int32), iv ch, .unset]) rfl ?_
          refine XS.goto X29.here hx rfl (pc0 := 135) (pc' := 175) rfl (hb hby d28_135) (by decide) (by decide) ?_
          refine XS.iinc X29.here hx rfl (hb hby d28_175) rfl (l' := #[rv r0, rv r1, rv b16, .val (.long (own_bit ch)), .second, .val (.long (0 : Int64)), .second, iv ((0 : Int32) + (1 : Int32)), iv ch, .unset]) rfl ?_
          show Steps p.tables e below (T29.setTop (mkF m 178 #[rv r0, rv r1, rv b16, .val (.long (own_bit ch)), .second, .val (.long (0 : Int64)), .second, iv ((0 : Int32) + (1 : Int32)), iv ch, .unset] [])) _
          rw [show ((0 : Int32) + (1 : Int32)) = (1 : Int32) from (by decide)]
          show Steps p.tables e below (T29.setTop (mkF m 178 #[rv r0, rv r1, rv b16, .val (.long (own_bit ch)), .second, .val (.long (0 : Int64)), .second, iv (1 : Int32), iv ch, .unset] [])) _
          refine XS.goto X29.here hx rfl (pc0 := 178) (pc' := 47) rfl (hb hby d28_178) (by decide) (by decide) ?_
          refine XS.iload X29.here hx rfl (hb hby d28_47) rfl ?_
          refine XS.aloadN X29.here hx rfl (hb hby d28_49) rfl rfl ?_
          exact kt
        obtain ⟨cq156, kq156, q156a, q156b, q156c⟩ := isOf hZ hh29 f24
        obtain ⟨_, _, ⟨T156, L156, k156, n156⟩, -, X156, ⟨Lc156, hQ156, l156, y156, z156⟩, st156⟩ := X29.virtualBack hx (y := (⟨"java/lang/String", "length", "()I"⟩ : MethodName)) (z := (⟨"java/lang/String", "length", "()I"⟩ : MethodName)) hown (mvT hZ (hw _ (List.mem_of_getElem? (i := 138) rfl))) (mvT hZ (hw _ (List.mem_of_getElem? (i := 94) rfl))) (notFace_of_selects (args := #[]) (mvT hZ (hw _ (List.mem_of_getElem? (i := 96) rfl)))) (mvT hZ (hw _ (List.mem_of_getElem? (i := 96) rfl))) (mvT hZ (hw _ (List.mem_of_getElem? (i := 95) rfl))) (by decide) (backOf (W := 1) (rm19 l Z a0 hw [] r1 va kc ch cs h16 n0 (Nat.le_trans Z0 K16.1) f25 f26 f24 f18 (O0.keep K16 (allS g_r0 all0)) S_cs hcs) hZ (hw _ (List.mem_of_getElem? (i := 97) rfl)) (hw _ (List.mem_of_getElem? (i := 7) rfl)) (by decide) (by decide)) q156a q156c (g := (mkF m 50 #[rv r0, rv r1, rv b16, .val (.long (own_bit ch)), .second, .val (.long (0 : Int64)), .second, iv (1 : Int32), iv ch, .unset] [(.ref r1), (.int (1 : Int32))])) rfl (by rw [hml]; rfl) (Steps.refl _) (argsL := []) (rest := [(.int (1 : Int32))]) (lenOf pd21 rfl) rfl (by show 2 * 0 + _ ≤ _; exact Nat.le_of_eq rfl) (hb hby d28_50) (fun _ _ => ⟨rfl, hh29, (by decide : 2 + 0 ≤ _), (by decide : 2 + 0 ≤ _)⟩)
        dsimp only [Pt.U, Pt.locs, Pt.cells, Pt.slots] at X156 l156 y156 z156 st156 hQ156
        subst l156 y156 z156
        obtain ⟨rfl, N156q, hh156⟩ := hQ156
        have N156 := Fr.app N29 N156q
        have pre157 : ∀ t, Steps p.tables e below (T156.setTop (mkF m 183 #[rv r0, rv r1, rv b16, .val (.long (own_bit ch)), .second, .val (.long (0 : Int64)), .second, iv (1 : Int32), iv ch, .unset] [(.long (own_bit ch)), (.ref r0)])) t → Steps p.tables e below (s₁.setTop (entryFrame m #[(.ref r0), (.ref r1)] 10)) t := by
          intro t kt
          refine pre155 _ ?_
          show Steps p.tables e below (T29.setTop (mkF m 50 #[rv r0, rv r1, rv b16, .val (.long (own_bit ch)), .second, .val (.long (0 : Int64)), .second, iv (1 : Int32), iv ch, .unset] [(.ref r1), (.int (1 : Int32))])) _
          refine st156.trans ?_
          show Steps p.tables e below (T156.setTop (mkF m 53 #[rv r0, rv r1, rv b16, .val (.long (own_bit ch)), .second, .val (.long (0 : Int64)), .second, iv (1 : Int32), iv ch, .unset] [(.int (1 : Int32)), (.int (1 : Int32))])) _
          refine XS.icmpYes X156.here hx rfl (pc0 := 53) (pc' := 181) rfl (hb hby d28_53) rfl (flt (by decide)).2.1 (by decide) (by decide) ?_
          refine XS.aloadN X156.here hx rfl (hb hby d28_181) rfl rfl ?_
          refine XS.lloadN X156.here hx rfl (hb hby d28_182) rfl ?_
          exact kt
        obtain ⟨T158, h158, X158, e158, W158, st158⟩ := putF X156 hx hZ hown (host := "") (Or.inl (hw _ (List.mem_of_getElem? (i := 160) rfl))) Via.refl hh156 f21 f19 (Or.inr ⟨(hw _ (List.mem_of_getElem? (i := 161) rfl)), rfl, hnm⟩) (hw _ (List.mem_of_getElem? (i := 132) rfl)) (ty := .long) (by decide) rfl rfl (g := (mkF m 183 #[rv r0, rv r1, rv b16, .val (.long (own_bit ch)), .second, .val (.long (0 : Int64)), .second, iv (1 : Int32), iv ch, .unset] [(.long (own_bit ch)), (.ref r0)])) rfl rfl (hb hby d28_183)
        have Fw158 : Fld Z h158 r0 "com/example/subject/subject/model/Wildcards$Places" "heldLow" "J" (.long (own_bit ch)) := f21.same W158
        have K158 : Keep h0 h158 [r0] := K16.wr W158 (Or.inl (List.mem_of_getElem? (i := 0) rfl))
        have N158 := Fr.snoc X158 N156 g_r0
        have pre159 : ∀ t, Steps p.tables e below (T158.setTop (mkF m 189 #[rv r0, rv r1, rv b16, .val (.long (own_bit ch)), .second, .val (.long (0 : Int64)), .second, iv (1 : Int32), iv ch, .unset] [(.long (0 : Int64)), (.ref r0)])) t → Steps p.tables e below (s₁.setTop (entryFrame m #[(.ref r0), (.ref r1)] 10)) t := by
          intro t kt
          refine pre157 _ ?_
          show Steps p.tables e below (T156.setTop (mkF m 183 #[rv r0, rv r1, rv b16, .val (.long (own_bit ch)), .second, .val (.long (0 : Int64)), .second, iv (1 : Int32), iv ch, .unset] [(.long (own_bit ch)), (.ref r0)])) _
          refine st158 _ ?_
          show Steps p.tables e below (T158.setTop (mkF m 186 #[rv r0, rv r1, rv b16, .val (.long (own_bit ch)), .second, .val (.long (0 : Int64)), .second, iv (1 : Int32), iv ch, .unset] [])) _
          refine XS.aloadN X158.here hx rfl (hb hby d28_186) rfl rfl ?_
          refine XS.lload X158.here hx rfl (hb hby d28_187) rfl ?_
          exact kt
        obtain ⟨T160, h160, X160, e160, W160, st160⟩ := putF X158 hx hZ hown (host := "") (Or.inl (hw _ (List.mem_of_getElem? (i := 162) rfl))) Via.refl e158 (f22.other W158 (Or.inr (slot_ne (Or.inr (hw _ (List.mem_of_getElem? (i := 163) rfl))) (Or.inr (hw _ (List.mem_of_getElem? (i := 161) rfl))) (by decide) (t := .long) (t' := .long) (by decide) (by decide)))) (f19.wr W158) (Or.inr ⟨(hw _ (List.mem_of_getElem? (i := 163) rfl)), rfl, hnm⟩) (hw _ (List.mem_of_getElem? (i := 132) rfl)) (ty := .long) (by decide) rfl rfl (g := (mkF m 189 #[rv r0, rv r1, rv b16, .val (.long (own_bit ch)), .second, .val (.long (0 : Int64)), .second, iv (1 : Int32), iv ch, .unset] [(.long (0 : Int64)), (.ref r0)])) rfl rfl (hb hby d28_189)
        have Fw160 : Fld Z h160 r0 "com/example/subject/subject/model/Wildcards$Places" "heldHigh" "J" (.long (0 : Int64)) := (f22.other W158 (Or.inr (slot_ne (Or.inr (hw _ (List.mem_of_getElem? (i := 163) rfl))) (Or.inr (hw _ (List.mem_of_getElem? (i := 161) rfl))) (by decide) (t := .long) (t' := .long) (by decide) (by decide)))).same W160
        have K160 : Keep h0 h160 [r0] := K158.wr W160 (Or.inl (List.mem_of_getElem? (i := 0) rfl))
        have N160 := Fr.snoc X160 N158 g_r0
        have pre161 : ∀ t, Steps p.tables e below (T160.setTop (mkF m 194 #[rv r0, rv r1, rv b16, .val (.long (own_bit ch)), .second, .val (.long (0 : Int64)), .second, iv (1 : Int32), iv ch, .unset] [(.long (own_bit ch)), (.int (1 : Int32))])) t → Steps p.tables e below (s₁.setTop (entryFrame m #[(.ref r0), (.ref r1)] 10)) t := by
          intro t kt
          refine pre159 _ ?_
          show Steps p.tables e below (T158.setTop (mkF m 189 #[rv r0, rv r1, rv b16, .val (.long (own_bit ch)), .second, .val (.long (0 : Int64)), .second, iv (1 : Int32), iv ch, .unset] [(.long (0 : Int64)), (.ref r0)])) _
          refine st160 _ ?_
          show Steps p.tables e below (T160.setTop (mkF m 192 #[rv r0, rv r1, rv b16, .val (.long (own_bit ch)), .second, .val (.long (0 : Int64)), .second, iv (1 : Int32), iv ch, .unset] [])) _
          refine XS.iconst X160.here hx rfl (hb hby d28_192) ?_
          refine XS.lloadN X160.here hx rfl (hb hby d28_193) rfl ?_
          exact kt
        have f162 := (((Fw12.ext E16).other W158 (Or.inr (slot_ne (Or.inr (hw _ (List.mem_of_getElem? (i := 143) rfl))) (Or.inr (hw _ (List.mem_of_getElem? (i := 161) rfl))) (by decide) (t := (.array .long)) (t' := .long) (by decide) (by decide)))).other W160 (Or.inr (slot_ne (Or.inr (hw _ (List.mem_of_getElem? (i := 143) rfl))) (Or.inr (hw _ (List.mem_of_getElem? (i := 163) rfl))) (by decide) (t := (.array .long)) (t' := .long) (by decide) (by decide))))
        have f163 := ((((V_b10.other W12 (Exa.ne ((((Ex10.wr W12).ext E16).wr W158).wr W160) ((f19.wr W158).wr W160) (by decide))).ext E16).other W158 (Exa.ne ((((Ex10.wr W12).ext E16).wr W158).wr W160) ((f19.wr W158).wr W160) (by decide))).other W160 (Exa.ne ((((Ex10.wr W12).ext E16).wr W158).wr W160) ((f19.wr W158).wr W160) (by decide)))
        have f164 := ((((Ex10.wr W12).ext E16).wr W158).wr W160)
        obtain ⟨_, _, ⟨T165, L165, k165, n165⟩, -, X165, ⟨Lc165, hQ165, l165, y165, z165⟩, st165⟩ := Jvm.LawKit.callS X160 hx (y := (⟨"java/lang/Long", "bitCount", "(J)I"⟩ : MethodName)) hown (mvT hZ (hw _ (List.mem_of_getElem? (i := 164) rfl))) (mvT hZ (hw _ (List.mem_of_getElem? (i := 165) rfl))) (mvT hZ (hw _ (List.mem_of_getElem? (i := 166) rfl))) (mvT hZ (hw _ (List.mem_of_getElem? (i := 167) rfl))) (by decide) (backOf (W := 1) (rm33 l Z a0 hw [] (own_bit ch) (1 : Int32) h160 n0 (Nat.le_trans Z0 K160.1) (own_all (P := fun ch => ch < (64 : Int32) → own_bc (own_bit ch) = (1 : Int32)) (by decide +kernel) ch hok_ch hc125)) hZ (hw _ (List.mem_of_getElem? (i := 167) rfl)) (hw _ (List.mem_of_getElem? (i := 166) rfl)) (by decide) (by decide)) (g := (mkF m 194 #[rv r0, rv r1, rv b16, .val (.long (own_bit ch)), .second, .val (.long (0 : Int64)), .second, iv (1 : Int32), iv ch, .unset] [(.long (own_bit ch)), (.int (1 : Int32))])) rfl (by rw [hml]; rfl) (argsL := [(.long (own_bit ch))]) (rest := [(.int (1 : Int32))]) (lenOf pd25 rfl) rfl (by show 2 * 0 + _ ≤ _; exact Nat.le_of_eq rfl) (hb hby d28_194) (fun _ _ => ⟨rfl, e160, (by decide : 2 + 0 ≤ _), (by decide : 2 + 0 ≤ _)⟩)
        dsimp only [Pt.U, Pt.locs, Pt.cells, Pt.slots] at X165 l165 y165 z165 st165 hQ165
        subst l165 y165 z165
        obtain ⟨rfl, N165q, hh165⟩ := hQ165
        have N165 := Fr.app N160 N165q
        have pre166 : ∀ t, Steps p.tables e below (T165.setTop (mkF m 200 #[rv r0, rv r1, rv b16, .val (.long (own_bit ch)), .second, .val (.long (0 : Int64)), .second, iv (1 : Int32), iv ch, .unset] [(.long (0 : Int64)), (.int (2 : Int32))])) t → Steps p.tables e below (s₁.setTop (entryFrame m #[(.ref r0), (.ref r1)] 10)) t := by
          intro t kt
          refine pre161 _ ?_
          show Steps p.tables e below (T160.setTop (mkF m 194 #[rv r0, rv r1, rv b16, .val (.long (own_bit ch)), .second, .val (.long (0 : Int64)), .second, iv (1 : Int32), iv ch, .unset] [(.long (own_bit ch)), (.int (1 : Int32))])) _
          refine st165 _ ?_
          show Steps p.tables e below (T165.setTop (mkF m 197 #[rv r0, rv r1, rv b16, .val (.long (own_bit ch)), .second, .val (.long (0 : Int64)), .second, iv (1 : Int32), iv ch, .unset] [(.int (1 : Int32)), (.int (1 : Int32))])) _
          refine XS.iadd X165.here hx rfl (hb hby d28_197) rfl ?_
          show Steps p.tables e below (T165.setTop (mkF m 198 #[rv r0, rv r1, rv b16, .val (.long (own_bit ch)), .second, .val (.long (0 : Int64)), .second, iv (1 : Int32), iv ch, .unset] [(.int ((1 : Int32) + (1 : Int32)))])) _
          rw [show ((1 : Int32) + (1 : Int32)) = (2 : Int32) from (by decide)]
          show Steps p.tables e below (T165.setTop (mkF m 198 #[rv r0, rv r1, rv b16, .val (.long (own_bit ch)), .second, .val (.long (0 : Int64)), .second, iv (1 : Int32), iv ch, .unset] [(.int (2 : Int32))])) _
          refine XS.lload X165.here hx rfl (hb hby d28_198) rfl ?_
          exact kt
        obtain ⟨_, _, ⟨T167, L167, k167, n167⟩, -, X167, ⟨Lc167, hQ167, l167, y167, z167⟩, st167⟩ := Jvm.LawKit.callS X165 hx (y := (⟨"java/lang/Long", "bitCount", "(J)I"⟩ : MethodName)) hown (mvT hZ (hw _ (List.mem_of_getElem? (i := 164) rfl))) (mvT hZ (hw _ (List.mem_of_getElem? (i := 165) rfl))) (mvT hZ (hw _ (List.mem_of_getElem? (i := 166) rfl))) (mvT hZ (hw _ (List.mem_of_getElem? (i := 167) rfl))) (by decide) (backOf (W := 1) (rm33 l Z a0 hw [] (0 : Int64) (0 : Int32) h160 n0 (Nat.le_trans Z0 K160.1) (by decide +kernel)) hZ (hw _ (List.mem_of_getElem? (i := 167) rfl)) (hw _ (List.mem_of_getElem? (i := 166) rfl)) (by decide) (by decide)) (g := (mkF m 200 #[rv r0, rv r1, rv b16, .val (.long (own_bit ch)), .second, .val (.long (0 : Int64)), .second, iv (1 : Int32), iv ch, .unset] [(.long (0 : Int64)), (.int (2 : Int32))])) rfl (by rw [hml]; rfl) (argsL := [(.long (0 : Int64))]) (rest := [(.int (2 : Int32))]) (lenOf pd25 rfl) rfl (by show 2 * 0 + _ ≤ _; exact Nat.le_of_eq rfl) (hb hby d28_200) (fun _ _ => ⟨rfl, hh165, (by decide : 2 + 0 ≤ _), (by decide : 2 + 0 ≤ _)⟩)
        dsimp only [Pt.U, Pt.locs, Pt.cells, Pt.slots] at X167 l167 y167 z167 st167 hQ167
        subst l167 y167 z167
        obtain ⟨rfl, N167q, hh167⟩ := hQ167
        have N167 := Fr.app N165 N167q
        have pre168 : ∀ t, Steps p.tables e below (T167.setTop (mkF m 210 #[rv r0, rv r1, rv b16, .val (.long (own_bit ch)), .second, .val (.long (0 : Int64)), .second, iv (2 : Int32), iv ch, .unset] [(.ref r0), (.int (2 : Int32)), (.ref r0)])) t → Steps p.tables e below (s₁.setTop (entryFrame m #[(.ref r0), (.ref r1)] 10)) t := by
          intro t kt
          refine pre166 _ ?_
          show Steps p.tables e below (T165.setTop (mkF m 200 #[rv r0, rv r1, rv b16, .val (.long (own_bit ch)), .second, .val (.long (0 : Int64)), .second, iv (1 : Int32), iv ch, .unset] [(.long (0 : Int64)), (.int (2 : Int32))])) _
          refine st167 _ ?_
          show Steps p.tables e below (T167.setTop (mkF m 203 #[rv r0, rv r1, rv b16, .val (.long (own_bit ch)), .second, .val (.long (0 : Int64)), .second, iv (1 : Int32), iv ch, .unset] [(.int (0 : Int32)), (.int (2 : Int32))])) _
          refine XS.iadd X167.here hx rfl (hb hby d28_203) rfl ?_
          show Steps p.tables e below (T167.setTop (mkF m 204 #[rv r0, rv r1, rv b16, .val (.long (own_bit ch)), .second, .val (.long (0 : Int64)), .second, iv (1 : Int32), iv ch, .unset] [(.int ((2 : Int32) + (0 : Int32)))])) _
          rw [show ((2 : Int32) + (0 : Int32)) = (2 : Int32) from (by decide)]
          show Steps p.tables e below (T167.setTop (mkF m 204 #[rv r0, rv r1, rv b16, .val (.long (own_bit ch)), .second, .val (.long (0 : Int64)), .second, iv (1 : Int32), iv ch, .unset] [(.int (2 : Int32))])) _
          refine XS.istore X167.here hx rfl (hb hby d28_204) rfl (l' := #[rv r0, rv r1, rv b16, .val (.long (own_bit ch)), .second, .val (.long (0 : Int64)), .second, iv (2 : Int32), iv ch, .unset]) rfl ?_
          refine XS.aloadN X167.here hx rfl (hb hby d28_206) rfl rfl ?_
          refine XS.iload X167.here hx rfl (hb hby d28_207) rfl ?_
          refine XS.aloadN X167.here hx rfl (hb hby d28_209) rfl rfl ?_
          exact kt
        obtain ⟨T169, X169, e169, st169⟩ := getF X167 hx hZ hown (host := "") (Or.inl (hw _ (List.mem_of_getElem? (i := 139) rfl))) Via.refl hh167 ((f20.other W158 (Or.inr (slot_ne (Or.inr (hw _ (List.mem_of_getElem? (i := 140) rfl))) (Or.inr (hw _ (List.mem_of_getElem? (i := 161) rfl))) (by decide) (t := .int) (t' := .long) (by decide) (by decide)))).other W160 (Or.inr (slot_ne (Or.inr (hw _ (List.mem_of_getElem? (i := 140) rfl))) (Or.inr (hw _ (List.mem_of_getElem? (i := 163) rfl))) (by decide) (t := .int) (t' := .long) (by decide) (by decide)))) (g := (mkF m 210 #[rv r0, rv r1, rv b16, .val (.long (own_bit ch)), .second, .val (.long (0 : Int64)), .second, iv (2 : Int32), iv ch, .unset] [(.ref r0), (.int (2 : Int32)), (.ref r0)])) rfl rfl (hb hby d28_210)
        have pre170 : ∀ t, Steps p.tables e below (T169.setTop (mkF m 214 #[rv r0, rv r1, rv b16, .val (.long (own_bit ch)), .second, .val (.long (0 : Int64)), .second, iv (2 : Int32), iv ch, .unset] [(.int (2 : Int32)), (.ref r0)])) t → Steps p.tables e below (s₁.setTop (entryFrame m #[(.ref r0), (.ref r1)] 10)) t := by
          intro t kt
          refine pre168 _ ?_
          show Steps p.tables e below (T167.setTop (mkF m 210 #[rv r0, rv r1, rv b16, .val (.long (own_bit ch)), .second, .val (.long (0 : Int64)), .second, iv (2 : Int32), iv ch, .unset] [(.ref r0), (.int (2 : Int32)), (.ref r0)])) _
          refine st169 _ ?_
          show Steps p.tables e below (T169.setTop (mkF m 213 #[rv r0, rv r1, rv b16, .val (.long (own_bit ch)), .second, .val (.long (0 : Int64)), .second, iv (2 : Int32), iv ch, .unset] [(.int (1 : Int32)), (.int (2 : Int32)), (.ref r0)])) _
          refine XS.imul X169.here hx rfl (hb hby d28_213) rfl ?_
          show Steps p.tables e below (T169.setTop (mkF m 214 #[rv r0, rv r1, rv b16, .val (.long (own_bit ch)), .second, .val (.long (0 : Int64)), .second, iv (2 : Int32), iv ch, .unset] [(.int ((2 : Int32) * (1 : Int32))), (.ref r0)])) _
          rw [show ((2 : Int32) * (1 : Int32)) = (2 : Int32) from (by decide)]
          exact kt
        obtain ⟨T171, h171, k171, X171, e171, E171, A171, Ex171, st171⟩ := newPE X169 hx hZ (hw _ (List.mem_of_getElem? (i := 141) rfl)) e169 (g := (mkF m 214 #[rv r0, rv r1, rv b16, .val (.long (own_bit ch)), .second, .val (.long (0 : Int64)), .second, iv (2 : Int32), iv ch, .unset] [(.int (2 : Int32)), (.ref r0)])) rfl (hb hby d28_214) rfl (by decide) (cap := 2) (by decide) (by decide) (by decide) (by decide) (ad := "[J") rfl
        obtain ⟨b171, g171⟩ : ∃ z, z = h160.size := ⟨_, rfl⟩
        rw [← g171] at A171 Ex171 st171
        have g_b171 : n0 ≤ b171 := Nat.le_trans (Nat.le_trans Z0 K160.1) (Nat.le_of_eq g171.symm)
        have sz_b171 : h0.size ≤ b171 := Nat.le_trans K160.1 (Nat.le_of_eq g171.symm)
        have V_b171 : Arv Z h171 b171 k171 .long (2 : Int32) [(.long (0 : Int64)), (.long (0 : Int64))] (.long (0 : Int64)) := (Arv.new A171 (by decide)).pad (pad_rep [] (.long (0 : Int64)) 2)
        have K171 : Keep h0 h171 [r0] := K160.ext E171
        have pre172 : ∀ t, Steps p.tables e below (T171.setTop (mkF m 216 #[rv r0, rv r1, rv b16, .val (.long (own_bit ch)), .second, .val (.long (0 : Int64)), .second, iv (2 : Int32), iv ch, .unset] [(.ref b171), (.ref r0)])) t → Steps p.tables e below (s₁.setTop (entryFrame m #[(.ref r0), (.ref r1)] 10)) t := by
          intro t kt
          refine pre170 _ ?_
          show Steps p.tables e below (T169.setTop (mkF m 214 #[rv r0, rv r1, rv b16, .val (.long (own_bit ch)), .second, .val (.long (0 : Int64)), .second, iv (2 : Int32), iv ch, .unset] [(.int (2 : Int32)), (.ref r0)])) _
          refine st171 _ ?_
          exact kt
        obtain ⟨T173, h173, X173, e173, W173, st173⟩ := putF X171 hx hZ hown (host := "") (Or.inl (hw _ (List.mem_of_getElem? (i := 171) rfl))) Via.refl e171 (((f23.other W158 (Or.inr (slot_ne (Or.inr (hw _ (List.mem_of_getElem? (i := 172) rfl))) (Or.inr (hw _ (List.mem_of_getElem? (i := 161) rfl))) (by decide) (t := (.array .long)) (t' := .long) (by decide) (by decide)))).other W160 (Or.inr (slot_ne (Or.inr (hw _ (List.mem_of_getElem? (i := 172) rfl))) (Or.inr (hw _ (List.mem_of_getElem? (i := 163) rfl))) (by decide) (t := (.array .long)) (t' := .long) (by decide) (by decide)))).ext E171) (((f19.wr W158).wr W160).ext E171) (Or.inr ⟨(hw _ (List.mem_of_getElem? (i := 172) rfl)), rfl, hnm⟩) (hw _ (List.mem_of_getElem? (i := 132) rfl)) (ty := (.array .long)) (by decide) rfl rfl (g := (mkF m 216 #[rv r0, rv r1, rv b16, .val (.long (own_bit ch)), .second, .val (.long (0 : Int64)), .second, iv (2 : Int32), iv ch, .unset] [(.ref b171), (.ref r0)])) rfl rfl (hb hby d28_216)
        have Fw173 : Fld Z h173 r0 "com/example/subject/subject/model/Wildcards$Places" "fits" "[J" (.ref b171) := (((f23.other W158 (Or.inr (slot_ne (Or.inr (hw _ (List.mem_of_getElem? (i := 172) rfl))) (Or.inr (hw _ (List.mem_of_getElem? (i := 161) rfl))) (by decide) (t := (.array .long)) (t' := .long) (by decide) (by decide)))).other W160 (Or.inr (slot_ne (Or.inr (hw _ (List.mem_of_getElem? (i := 172) rfl))) (Or.inr (hw _ (List.mem_of_getElem? (i := 163) rfl))) (by decide) (t := (.array .long)) (t' := .long) (by decide) (by decide)))).ext E171).same W173
        have K173 : Keep h0 h173 [r0] := K171.wr W173 (Or.inl (List.mem_of_getElem? (i := 0) rfl))
        have N173 := Fr.snoc X173 N167 g_r0
        have pre174 : ∀ t, Steps p.tables e below (T173.setTop (mkF m 232 #[rv r0, rv r1, rv b16, .val (.long (own_bit ch)), .second, .val (.long (0 : Int64)), .second, iv (2 : Int32), iv (0 : Int32), .unset] [(.ref r0), (.int (0 : Int32)), (.ref b16)])) t → Steps p.tables e below (s₁.setTop (entryFrame m #[(.ref r0), (.ref r1)] 10)) t := by
          intro t kt
          refine pre172 _ ?_
          show Steps p.tables e below (T171.setTop (mkF m 216 #[rv r0, rv r1, rv b16, .val (.long (own_bit ch)), .second, .val (.long (0 : Int64)), .second, iv (2 : Int32), iv ch, .unset] [(.ref b171), (.ref r0)])) _
          refine st173 _ ?_
          show Steps p.tables e below (T173.setTop (mkF m 219 #[rv r0, rv r1, rv b16, .val (.long (own_bit ch)), .second, .val (.long (0 : Int64)), .second, iv (2 : Int32), iv ch, .unset] [])) _
          refine XS.iconst X173.here hx rfl (hb hby d28_219) ?_
          refine XS.istore X173.here hx rfl (hb hby d28_220) rfl (l' := #[rv r0, rv r1, rv b16, .val (.long (own_bit ch)), .second, .val (.long (0 : Int64)), .second, iv (2 : Int32), iv (0 : Int32), .unset]) rfl ?_
          refine XS.iload X173.here hx rfl (hb hby d28_222) rfl ?_
          refine XS.iload X173.here hx rfl (hb hby d28_224) rfl ?_
          refine XS.icmpNo X173.here hx rfl (hb hby d28_226) rfl (tlt (by decide)).2.1 ?_
          refine XS.aloadN X173.here hx rfl (hb hby d28_229) rfl rfl ?_
          refine XS.iconst X173.here hx rfl (hb hby d28_230) ?_
          refine XS.aloadN X173.here hx rfl (hb hby d28_231) rfl rfl ?_
          exact kt
        obtain ⟨T175, X175, e175, st175⟩ := getF X173 hx hZ hown (host := "") (Or.inl (hw _ (List.mem_of_getElem? (i := 171) rfl))) Via.refl e173 Fw173 (g := (mkF m 232 #[rv r0, rv r1, rv b16, .val (.long (own_bit ch)), .second, .val (.long (0 : Int64)), .second, iv (2 : Int32), iv (0 : Int32), .unset] [(.ref r0), (.int (0 : Int32)), (.ref b16)])) rfl rfl (hb hby d28_232)
        have pre176 : ∀ t, Steps p.tables e below (T175.setTop (mkF m 238 #[rv r0, rv r1, rv b16, .val (.long (own_bit ch)), .second, .val (.long (0 : Int64)), .second, iv (2 : Int32), iv (0 : Int32), .unset] [(.ref r0), (.int (0 : Int32)), (.ref b171), (.int (0 : Int32)), (.ref b16)])) t → Steps p.tables e below (s₁.setTop (entryFrame m #[(.ref r0), (.ref r1)] 10)) t := by
          intro t kt
          refine pre174 _ ?_
          show Steps p.tables e below (T173.setTop (mkF m 232 #[rv r0, rv r1, rv b16, .val (.long (own_bit ch)), .second, .val (.long (0 : Int64)), .second, iv (2 : Int32), iv (0 : Int32), .unset] [(.ref r0), (.int (0 : Int32)), (.ref b16)])) _
          refine st175 _ ?_
          show Steps p.tables e below (T175.setTop (mkF m 235 #[rv r0, rv r1, rv b16, .val (.long (own_bit ch)), .second, .val (.long (0 : Int64)), .second, iv (2 : Int32), iv (0 : Int32), .unset] [(.ref b171), (.int (0 : Int32)), (.ref b16)])) _
          refine XS.iload X175.here hx rfl (hb hby d28_235) rfl ?_
          refine XS.aloadN X175.here hx rfl (hb hby d28_237) rfl rfl ?_
          exact kt
        obtain ⟨T177, X177, e177, st177⟩ := getF X175 hx hZ hown (host := "") (Or.inl (hw _ (List.mem_of_getElem? (i := 139) rfl))) Via.refl e175 ((((f20.other W158 (Or.inr (slot_ne (Or.inr (hw _ (List.mem_of_getElem? (i := 140) rfl))) (Or.inr (hw _ (List.mem_of_getElem? (i := 161) rfl))) (by decide) (t := .int) (t' := .long) (by decide) (by decide)))).other W160 (Or.inr (slot_ne (Or.inr (hw _ (List.mem_of_getElem? (i := 140) rfl))) (Or.inr (hw _ (List.mem_of_getElem? (i := 163) rfl))) (by decide) (t := .int) (t' := .long) (by decide) (by decide)))).ext E171).other W173 (Or.inr (slot_ne (Or.inr (hw _ (List.mem_of_getElem? (i := 140) rfl))) (Or.inr (hw _ (List.mem_of_getElem? (i := 172) rfl))) (by decide) (t := .int) (t' := (.array .long)) (by decide) (by decide)))) (g := (mkF m 238 #[rv r0, rv r1, rv b16, .val (.long (own_bit ch)), .second, .val (.long (0 : Int64)), .second, iv (2 : Int32), iv (0 : Int32), .unset] [(.ref r0), (.int (0 : Int32)), (.ref b171), (.int (0 : Int32)), (.ref b16)])) rfl rfl (hb hby d28_238)
        have pre178 : ∀ t, Steps p.tables e below (T177.setTop (mkF m 243 #[rv r0, rv r1, rv b16, .val (.long (own_bit ch)), .second, .val (.long (0 : Int64)), .second, iv (2 : Int32), iv (0 : Int32), .unset] [(.ref r0), (.int (0 : Int32)), (.ref b171), (.int (0 : Int32)), (.ref b16)])) t → Steps p.tables e below (s₁.setTop (entryFrame m #[(.ref r0), (.ref r1)] 10)) t := by
          intro t kt
          refine pre176 _ ?_
          show Steps p.tables e below (T175.setTop (mkF m 238 #[rv r0, rv r1, rv b16, .val (.long (own_bit ch)), .second, .val (.long (0 : Int64)), .second, iv (2 : Int32), iv (0 : Int32), .unset] [(.ref r0), (.int (0 : Int32)), (.ref b171), (.int (0 : Int32)), (.ref b16)])) _
          refine st177 _ ?_
          show Steps p.tables e below (T177.setTop (mkF m 241 #[rv r0, rv r1, rv b16, .val (.long (own_bit ch)), .second, .val (.long (0 : Int64)), .second, iv (2 : Int32), iv (0 : Int32), .unset] [(.int (1 : Int32)), (.int (0 : Int32)), (.ref b171), (.int (0 : Int32)), (.ref b16)])) _
          refine XS.imul X177.here hx rfl (hb hby d28_241) rfl ?_
          show Steps p.tables e below (T177.setTop (mkF m 242 #[rv r0, rv r1, rv b16, .val (.long (own_bit ch)), .second, .val (.long (0 : Int64)), .second, iv (2 : Int32), iv (0 : Int32), .unset] [(.int ((0 : Int32) * (1 : Int32))), (.ref b171), (.int (0 : Int32)), (.ref b16)])) _
          rw [show ((0 : Int32) * (1 : Int32)) = (0 : Int32) from (by decide)]
          show Steps p.tables e below (T177.setTop (mkF m 242 #[rv r0, rv r1, rv b16, .val (.long (own_bit ch)), .second, .val (.long (0 : Int64)), .second, iv (2 : Int32), iv (0 : Int32), .unset] [(.int (0 : Int32)), (.ref b171), (.int (0 : Int32)), (.ref b16)])) _
          refine XS.aloadN X177.here hx rfl (hb hby d28_242) rfl rfl ?_
          exact kt
        obtain ⟨T179, X179, e179, st179⟩ := getF X177 hx hZ hown (host := "") (Or.inl (hw _ (List.mem_of_getElem? (i := 139) rfl))) Via.refl e177 ((((f20.other W158 (Or.inr (slot_ne (Or.inr (hw _ (List.mem_of_getElem? (i := 140) rfl))) (Or.inr (hw _ (List.mem_of_getElem? (i := 161) rfl))) (by decide) (t := .int) (t' := .long) (by decide) (by decide)))).other W160 (Or.inr (slot_ne (Or.inr (hw _ (List.mem_of_getElem? (i := 140) rfl))) (Or.inr (hw _ (List.mem_of_getElem? (i := 163) rfl))) (by decide) (t := .int) (t' := .long) (by decide) (by decide)))).ext E171).other W173 (Or.inr (slot_ne (Or.inr (hw _ (List.mem_of_getElem? (i := 140) rfl))) (Or.inr (hw _ (List.mem_of_getElem? (i := 172) rfl))) (by decide) (t := .int) (t' := (.array .long)) (by decide) (by decide)))) (g := (mkF m 243 #[rv r0, rv r1, rv b16, .val (.long (own_bit ch)), .second, .val (.long (0 : Int64)), .second, iv (2 : Int32), iv (0 : Int32), .unset] [(.ref r0), (.int (0 : Int32)), (.ref b171), (.int (0 : Int32)), (.ref b16)])) rfl rfl (hb hby d28_243)
        have pre180 : ∀ t, Steps p.tables e below (T179.setTop (mkF m 246 #[rv r0, rv r1, rv b16, .val (.long (own_bit ch)), .second, .val (.long (0 : Int64)), .second, iv (2 : Int32), iv (0 : Int32), .unset] [(.int (1 : Int32)), (.int (0 : Int32)), (.ref b171), (.int (0 : Int32)), (.ref b16)])) t → Steps p.tables e below (s₁.setTop (entryFrame m #[(.ref r0), (.ref r1)] 10)) t := by
          intro t kt
          refine pre178 _ ?_
          show Steps p.tables e below (T177.setTop (mkF m 243 #[rv r0, rv r1, rv b16, .val (.long (own_bit ch)), .second, .val (.long (0 : Int64)), .second, iv (2 : Int32), iv (0 : Int32), .unset] [(.ref r0), (.int (0 : Int32)), (.ref b171), (.int (0 : Int32)), (.ref b16)])) _
          refine st179 _ ?_
          exact kt
        have f181 := ((((f18.other W158 (Ne.symm (Exa.neArv f19 f18 (hw _ (List.mem_of_getElem? (i := 132) rfl))))).other W160 (Ne.symm (Exa.neArv f19 f18 (hw _ (List.mem_of_getElem? (i := 132) rfl))))).ext E171).other W173 (Ne.symm (Exa.neArv f19 f18 (hw _ (List.mem_of_getElem? (i := 132) rfl)))))
        have f182 := ((((f19.wr W158).wr W160).ext E171).wr W173)
        have f183 := ((((f20.other W158 (Or.inr (slot_ne (Or.inr (hw _ (List.mem_of_getElem? (i := 140) rfl))) (Or.inr (hw _ (List.mem_of_getElem? (i := 161) rfl))) (by decide) (t := .int) (t' := .long) (by decide) (by decide)))).other W160 (Or.inr (slot_ne (Or.inr (hw _ (List.mem_of_getElem? (i := 140) rfl))) (Or.inr (hw _ (List.mem_of_getElem? (i := 163) rfl))) (by decide) (t := .int) (t' := .long) (by decide) (by decide)))).ext E171).other W173 (Or.inr (slot_ne (Or.inr (hw _ (List.mem_of_getElem? (i := 140) rfl))) (Or.inr (hw _ (List.mem_of_getElem? (i := 172) rfl))) (by decide) (t := .int) (t' := (.array .long)) (by decide) (by decide))))
        have f184 := (((Fw158.other W160 (Or.inr (slot_ne (Or.inr (hw _ (List.mem_of_getElem? (i := 161) rfl))) (Or.inr (hw _ (List.mem_of_getElem? (i := 163) rfl))) (by decide) (t := .long) (t' := .long) (by decide) (by decide)))).ext E171).other W173 (Or.inr (slot_ne (Or.inr (hw _ (List.mem_of_getElem? (i := 161) rfl))) (Or.inr (hw _ (List.mem_of_getElem? (i := 172) rfl))) (by decide) (t := .long) (t' := (.array .long)) (by decide) (by decide))))
        have f185 := ((((f24.wr W158).wr W160).ext E171).wr W173)
        have f186 := ((((f25.other W158 (Or.inl (Exa.ne f185 f182 (by decide)))).other W160 (Or.inl (Exa.ne f185 f182 (by decide)))).ext E171).other W173 (Or.inl (Exa.ne f185 f182 (by decide))))
        have f187 := ((((f26.other W158 (Or.inl (Exa.ne f185 f182 (by decide)))).other W160 (Or.inl (Exa.ne f185 f182 (by decide)))).ext E171).other W173 (Or.inl (Exa.ne f185 f182 (by decide))))
        have f188 := ((((V_b16.other W158 (Exa.ne ((((Ex16.wr W158).wr W160).ext E171).wr W173) f182 (by decide))).other W160 (Exa.ne ((((Ex16.wr W158).wr W160).ext E171).wr W173) f182 (by decide))).ext E171).other W173 (Exa.ne ((((Ex16.wr W158).wr W160).ext E171).wr W173) f182 (by decide)))
        have f189 := ((((Ex16.wr W158).wr W160).ext E171).wr W173)
        obtain ⟨T190, h190, L190, X190, e190, N190, Kc190, Vc190, st190⟩ := cpA X179 hx hZ hown (hw _ (List.mem_of_getElem? (i := 173) rfl)) (hw _ (List.mem_of_getElem? (i := 176) rfl)) (hw _ (List.mem_of_getElem? (i := 174) rfl)) (hw _ (List.mem_of_getElem? (i := 175) rfl)) e179 f188 (V_b171.other W173 (Exa.ne (Ex171.wr W173) f182 (by decide))) (Or.inl ⟨rfl, rfl⟩) (by decide) (by decide) (by decide) (by decide) (by decide) rfl (by decide) N173 g_b171 (g := (mkF m 246 #[rv r0, rv r1, rv b16, .val (.long (own_bit ch)), .second, .val (.long (0 : Int64)), .second, iv (2 : Int32), iv (0 : Int32), .unset] [(.int (1 : Int32)), (.int (0 : Int32)), (.ref b171), (.int (0 : Int32)), (.ref b16)])) rfl (by rw [hml]; rfl) rfl (hb hby d28_246) (by decide) (W := 0) (by show 2 * 0 + _ ≤ _; exact Nat.le_of_eq rfl) (by decide)
        have K190 : Keep h0 h190 [r0] := K173.trans Kc190 (allS (Or.inr sz_b171) all0)
        have V190 : Arv Z h190 b171 k171 .long (2 : Int32) [(.long (0 : Int64)), (.long (0 : Int64))] (.long (0 : Int64)) := Vc190
        have pre191 : ∀ t, Steps p.tables e below (T190.setTop (mkF m 232 #[rv r0, rv r1, rv b16, .val (.long (own_bit ch)), .second, .val (.long (0 : Int64)), .second, iv (2 : Int32), iv (1 : Int32), .unset] [(.ref r0), (.int (0 : Int32)), (.ref b16)])) t → Steps p.tables e below (s₁.setTop (entryFrame m #[(.ref r0), (.ref r1)] 10)) t := by
          intro t kt
          refine pre180 _ ?_
          show Steps p.tables e below (T179.setTop (mkF m 246 #[rv r0, rv r1, rv b16, .val (.long (own_bit ch)), .second, .val (.long (0 : Int64)), .second, iv (2 : Int32), iv (0 : Int32), .unset] [(.int (1 : Int32)), (.int (0 : Int32)), (.ref b171), (.int (0 : Int32)), (.ref b16)])) _
          refine st190 _ ?_
          show Steps p.tables e below (T190.setTop (mkF m 249 #[rv r0, rv r1, rv b16, .val (.long (own_bit ch)), .second, .val (.long (0 : Int64)), .second, iv (2 : Int32), iv (0 : Int32), .unset] [])) _
          refine XS.iinc X190.here hx rfl (hb hby d28_249) rfl (l' := #[rv r0, rv r1, rv b16, .val (.long (own_bit ch)), .second, .val (.long (0 : Int64)), .second, iv (2 : Int32), iv ((0 : Int32) + (1 : Int32)), .unset]) rfl ?_
          show Steps p.tables e below (T190.setTop (mkF m 252 #[rv r0, rv r1, rv b16, .val (.long (own_bit ch)), .second, .val (.long (0 : Int64)), .second, iv (2 : Int32), iv ((0 : Int32) + (1 : Int32)), .unset] [])) _
          rw [show ((0 : Int32) + (1 : Int32)) = (1 : Int32) from (by decide)]
          show Steps p.tables e below (T190.setTop (mkF m 252 #[rv r0, rv r1, rv b16, .val (.long (own_bit ch)), .second, .val (.long (0 : Int64)), .second, iv (2 : Int32), iv (1 : Int32), .unset] [])) _
          refine XS.goto X190.here hx rfl (pc0 := 252) (pc' := 222) rfl (hb hby d28_252) (by decide) (by decide) ?_
          refine XS.iload X190.here hx rfl (hb hby d28_222) rfl ?_
          refine XS.iload X190.here hx rfl (hb hby d28_224) rfl ?_
          refine XS.icmpNo X190.here hx rfl (hb hby d28_226) rfl (tlt (by decide)).2.1 ?_
          refine XS.aloadN X190.here hx rfl (hb hby d28_229) rfl rfl ?_
          refine XS.iconst X190.here hx rfl (hb hby d28_230) ?_
          refine XS.aloadN X190.here hx rfl (hb hby d28_231) rfl rfl ?_
          exact kt
        obtain ⟨T192, X192, e192, st192⟩ := getF X190 hx hZ hown (host := "") (Or.inl (hw _ (List.mem_of_getElem? (i := 171) rfl))) Via.refl e190 (Fw173.keep Kc190 (ninS (Exa.ne (f182.keep Kc190) ((Ex171.wr W173).keep Kc190) (by decide)) nin0)) (g := (mkF m 232 #[rv r0, rv r1, rv b16, .val (.long (own_bit ch)), .second, .val (.long (0 : Int64)), .second, iv (2 : Int32), iv (1 : Int32), .unset] [(.ref r0), (.int (0 : Int32)), (.ref b16)])) rfl rfl (hb hby d28_232)
        have pre193 : ∀ t, Steps p.tables e below (T192.setTop (mkF m 238 #[rv r0, rv r1, rv b16, .val (.long (own_bit ch)), .second, .val (.long (0 : Int64)), .second, iv (2 : Int32), iv (1 : Int32), .unset] [(.ref r0), (.int (1 : Int32)), (.ref b171), (.int (0 : Int32)), (.ref b16)])) t → Steps p.tables e below (s₁.setTop (entryFrame m #[(.ref r0), (.ref r1)] 10)) t := by
          intro t kt
          refine pre191 _ ?_
          show Steps p.tables e below (T190.setTop (mkF m 232 #[rv r0, rv r1, rv b16, .val (.long (own_bit ch)), .second, .val (.long (0 : Int64)), .second, iv (2 : Int32), iv (1 : Int32), .unset] [(.ref r0), (.int (0 : Int32)), (.ref b16)])) _
          refine st192 _ ?_
          show Steps p.tables e below (T192.setTop (mkF m 235 #[rv r0, rv r1, rv b16, .val (.long (own_bit ch)), .second, .val (.long (0 : Int64)), .second, iv (2 : Int32), iv (1 : Int32), .unset] [(.ref b171), (.int (0 : Int32)), (.ref b16)])) _
          refine XS.iload X192.here hx rfl (hb hby d28_235) rfl ?_
          refine XS.aloadN X192.here hx rfl (hb hby d28_237) rfl rfl ?_
          exact kt
        obtain ⟨T194, X194, e194, st194⟩ := getF X192 hx hZ hown (host := "") (Or.inl (hw _ (List.mem_of_getElem? (i := 139) rfl))) Via.refl e192 (f183.keep Kc190 (ninS (Exa.ne (f182.keep Kc190) ((Ex171.wr W173).keep Kc190) (by decide)) nin0)) (g := (mkF m 238 #[rv r0, rv r1, rv b16, .val (.long (own_bit ch)), .second, .val (.long (0 : Int64)), .second, iv (2 : Int32), iv (1 : Int32), .unset] [(.ref r0), (.int (1 : Int32)), (.ref b171), (.int (0 : Int32)), (.ref b16)])) rfl rfl (hb hby d28_238)
        have pre195 : ∀ t, Steps p.tables e below (T194.setTop (mkF m 243 #[rv r0, rv r1, rv b16, .val (.long (own_bit ch)), .second, .val (.long (0 : Int64)), .second, iv (2 : Int32), iv (1 : Int32), .unset] [(.ref r0), (.int (1 : Int32)), (.ref b171), (.int (0 : Int32)), (.ref b16)])) t → Steps p.tables e below (s₁.setTop (entryFrame m #[(.ref r0), (.ref r1)] 10)) t := by
          intro t kt
          refine pre193 _ ?_
          show Steps p.tables e below (T192.setTop (mkF m 238 #[rv r0, rv r1, rv b16, .val (.long (own_bit ch)), .second, .val (.long (0 : Int64)), .second, iv (2 : Int32), iv (1 : Int32), .unset] [(.ref r0), (.int (1 : Int32)), (.ref b171), (.int (0 : Int32)), (.ref b16)])) _
          refine st194 _ ?_
          show Steps p.tables e below (T194.setTop (mkF m 241 #[rv r0, rv r1, rv b16, .val (.long (own_bit ch)), .second, .val (.long (0 : Int64)), .second, iv (2 : Int32), iv (1 : Int32), .unset] [(.int (1 : Int32)), (.int (1 : Int32)), (.ref b171), (.int (0 : Int32)), (.ref b16)])) _
          refine XS.imul X194.here hx rfl (hb hby d28_241) rfl ?_
          show Steps p.tables e below (T194.setTop (mkF m 242 #[rv r0, rv r1, rv b16, .val (.long (own_bit ch)), .second, .val (.long (0 : Int64)), .second, iv (2 : Int32), iv (1 : Int32), .unset] [(.int ((1 : Int32) * (1 : Int32))), (.ref b171), (.int (0 : Int32)), (.ref b16)])) _
          rw [show ((1 : Int32) * (1 : Int32)) = (1 : Int32) from (by decide)]
          show Steps p.tables e below (T194.setTop (mkF m 242 #[rv r0, rv r1, rv b16, .val (.long (own_bit ch)), .second, .val (.long (0 : Int64)), .second, iv (2 : Int32), iv (1 : Int32), .unset] [(.int (1 : Int32)), (.ref b171), (.int (0 : Int32)), (.ref b16)])) _
          refine XS.aloadN X194.here hx rfl (hb hby d28_242) rfl rfl ?_
          exact kt
        obtain ⟨T196, X196, e196, st196⟩ := getF X194 hx hZ hown (host := "") (Or.inl (hw _ (List.mem_of_getElem? (i := 139) rfl))) Via.refl e194 (f183.keep Kc190 (ninS (Exa.ne (f182.keep Kc190) ((Ex171.wr W173).keep Kc190) (by decide)) nin0)) (g := (mkF m 243 #[rv r0, rv r1, rv b16, .val (.long (own_bit ch)), .second, .val (.long (0 : Int64)), .second, iv (2 : Int32), iv (1 : Int32), .unset] [(.ref r0), (.int (1 : Int32)), (.ref b171), (.int (0 : Int32)), (.ref b16)])) rfl rfl (hb hby d28_243)
        have pre197 : ∀ t, Steps p.tables e below (T196.setTop (mkF m 246 #[rv r0, rv r1, rv b16, .val (.long (own_bit ch)), .second, .val (.long (0 : Int64)), .second, iv (2 : Int32), iv (1 : Int32), .unset] [(.int (1 : Int32)), (.int (1 : Int32)), (.ref b171), (.int (0 : Int32)), (.ref b16)])) t → Steps p.tables e below (s₁.setTop (entryFrame m #[(.ref r0), (.ref r1)] 10)) t := by
          intro t kt
          refine pre195 _ ?_
          show Steps p.tables e below (T194.setTop (mkF m 243 #[rv r0, rv r1, rv b16, .val (.long (own_bit ch)), .second, .val (.long (0 : Int64)), .second, iv (2 : Int32), iv (1 : Int32), .unset] [(.ref r0), (.int (1 : Int32)), (.ref b171), (.int (0 : Int32)), (.ref b16)])) _
          refine st196 _ ?_
          exact kt
        have f198 := (((Fw160.ext E171).other W173 (Or.inr (slot_ne (Or.inr (hw _ (List.mem_of_getElem? (i := 163) rfl))) (Or.inr (hw _ (List.mem_of_getElem? (i := 172) rfl))) (by decide) (t := .long) (t' := (.array .long)) (by decide) (by decide)))).keep Kc190 (ninS (Exa.ne (f182.keep Kc190) ((Ex171.wr W173).keep Kc190) (by decide)) nin0))
        have f199 := (((f162.ext E171).other W173 (Or.inr (slot_ne (Or.inr (hw _ (List.mem_of_getElem? (i := 143) rfl))) (Or.inr (hw _ (List.mem_of_getElem? (i := 172) rfl))) (by decide) (t := (.array .long)) (t' := (.array .long)) (by decide) (by decide)))).keep Kc190 (ninS (Exa.ne (f182.keep Kc190) ((Ex171.wr W173).keep Kc190) (by decide)) nin0))
        have f200 := (((f163.ext E171).other W173 (Exa.ne (((f164.ext E171).wr W173).keep Kc190) (f182.keep Kc190) (by decide))).keep Kc190 (ninS (Nat.ne_of_lt (Nat.lt_of_lt_of_le f163.lt (Nat.le_of_eq g171.symm))) nin0))
        have f201 := (((f164.ext E171).wr W173).keep Kc190)
        obtain ⟨T202, h202, L202, X202, e202, N202, Kc202, Vc202, st202⟩ := cpA X196 hx hZ hown (hw _ (List.mem_of_getElem? (i := 173) rfl)) (hw _ (List.mem_of_getElem? (i := 176) rfl)) (hw _ (List.mem_of_getElem? (i := 174) rfl)) (hw _ (List.mem_of_getElem? (i := 175) rfl)) e196 (f188.keep Kc190 (ninS (Nat.ne_of_lt (Nat.lt_of_lt_of_le ((V_b16.other W158 (Exa.ne (f189.keep Kc190) (f182.keep Kc190) (by decide))).other W160 (Exa.ne (f189.keep Kc190) (f182.keep Kc190) (by decide))).lt (Nat.le_of_eq g171.symm))) nin0)) V190 (Or.inl ⟨rfl, rfl⟩) (by decide) (by decide) (by decide) (by decide) (by decide) rfl (by decide) N190 g_b171 (g := (mkF m 246 #[rv r0, rv r1, rv b16, .val (.long (own_bit ch)), .second, .val (.long (0 : Int64)), .second, iv (2 : Int32), iv (1 : Int32), .unset] [(.int (1 : Int32)), (.int (1 : Int32)), (.ref b171), (.int (0 : Int32)), (.ref b16)])) rfl (by rw [hml]; rfl) rfl (hb hby d28_246) (by decide) (W := 0) (by show 2 * 0 + _ ≤ _; exact Nat.le_of_eq rfl) (by decide)
        have K202 : Keep h0 h202 [r0] := K190.trans Kc202 (allS (Or.inr sz_b171) all0)
        have V202 : Arv Z h202 b171 k171 .long (2 : Int32) [(.long (0 : Int64)), (.long (0 : Int64))] (.long (0 : Int64)) := Vc202
        have pre203 : ∀ t, Steps p.tables e below (T202.setTop (mkF m 261 #[rv r0, rv r1, rv b16, .val (.long (own_bit ch)), .second, .val (.long (0 : Int64)), .second, iv (2 : Int32), iv (0 : Int32), .unset] [(.ref r1), (.int (0 : Int32))])) t → Steps p.tables e below (s₁.setTop (entryFrame m #[(.ref r0), (.ref r1)] 10)) t := by
          intro t kt
          refine pre197 _ ?_
          show Steps p.tables e below (T196.setTop (mkF m 246 #[rv r0, rv r1, rv b16, .val (.long (own_bit ch)), .second, .val (.long (0 : Int64)), .second, iv (2 : Int32), iv (1 : Int32), .unset] [(.int (1 : Int32)), (.int (1 : Int32)), (.ref b171), (.int (0 : Int32)), (.ref b16)])) _
          refine st202 _ ?_
          show Steps p.tables e below (T202.setTop (mkF m 249 #[rv r0, rv r1, rv b16, .val (.long (own_bit ch)), .second, .val (.long (0 : Int64)), .second, iv (2 : Int32), iv (1 : Int32), .unset] [])) _
          refine XS.iinc X202.here hx rfl (hb hby d28_249) rfl (l' := #[rv r0, rv r1, rv b16, .val (.long (own_bit ch)), .second, .val (.long (0 : Int64)), .second, iv (2 : Int32), iv ((1 : Int32) + (1 : Int32)), .unset]) rfl ?_
          show Steps p.tables e below (T202.setTop (mkF m 252 #[rv r0, rv r1, rv b16, .val (.long (own_bit ch)), .second, .val (.long (0 : Int64)), .second, iv (2 : Int32), iv ((1 : Int32) + (1 : Int32)), .unset] [])) _
          rw [show ((1 : Int32) + (1 : Int32)) = (2 : Int32) from (by decide)]
          show Steps p.tables e below (T202.setTop (mkF m 252 #[rv r0, rv r1, rv b16, .val (.long (own_bit ch)), .second, .val (.long (0 : Int64)), .second, iv (2 : Int32), iv (2 : Int32), .unset] [])) _
          refine XS.goto X202.here hx rfl (pc0 := 252) (pc' := 222) rfl (hb hby d28_252) (by decide) (by decide) ?_
          refine XS.iload X202.here hx rfl (hb hby d28_222) rfl ?_
          refine XS.iload X202.here hx rfl (hb hby d28_224) rfl ?_
          refine XS.icmpYes X202.here hx rfl (pc0 := 226) (pc' := 255) rfl (hb hby d28_226) rfl (flt (by decide)).2.1 (by decide) (by decide) ?_
          refine XS.iconst X202.here hx rfl (hb hby d28_255) ?_
          refine XS.istore X202.here hx rfl (hb hby d28_256) rfl (l' := #[rv r0, rv r1, rv b16, .val (.long (own_bit ch)), .second, .val (.long (0 : Int64)), .second, iv (2 : Int32), iv (0 : Int32), .unset]) rfl ?_
          refine XS.iload X202.here hx rfl (hb hby d28_258) rfl ?_
          refine XS.aloadN X202.here hx rfl (hb hby d28_260) rfl rfl ?_
          exact kt
        have f204 := (((Ex171.wr W173).keep Kc190).keep Kc202)
        obtain ⟨cq205, kq205, q205a, q205b, q205c⟩ := isOf hZ e202 ((f185.keep Kc190).keep Kc202)
        obtain ⟨_, _, ⟨T205, L205, k205, n205⟩, -, X205, ⟨Lc205, hQ205, l205, y205, z205⟩, st205⟩ := X202.virtualBack hx (y := (⟨"java/lang/String", "length", "()I"⟩ : MethodName)) (z := (⟨"java/lang/String", "length", "()I"⟩ : MethodName)) hown (mvT hZ (hw _ (List.mem_of_getElem? (i := 138) rfl))) (mvT hZ (hw _ (List.mem_of_getElem? (i := 94) rfl))) (notFace_of_selects (args := #[]) (mvT hZ (hw _ (List.mem_of_getElem? (i := 96) rfl)))) (mvT hZ (hw _ (List.mem_of_getElem? (i := 96) rfl))) (mvT hZ (hw _ (List.mem_of_getElem? (i := 95) rfl))) (by decide) (backOf (W := 1) (rm19 l Z a0 hw [] r1 va kc ch cs h202 n0 (Nat.le_trans Z0 K202.1) ((f186.keep Kc190 (ninS (Exa.ne ((f185.keep Kc190).keep Kc202) f204 (by decide)) nin0)).keep Kc202 (ninS (Exa.ne ((f185.keep Kc190).keep Kc202) f204 (by decide)) nin0)) ((f187.keep Kc190 (ninS (Exa.ne ((f185.keep Kc190).keep Kc202) f204 (by decide)) nin0)).keep Kc202 (ninS (Exa.ne ((f185.keep Kc190).keep Kc202) f204 (by decide)) nin0)) ((f185.keep Kc190).keep Kc202) ((f181.keep Kc190 (ninS (Nat.ne_of_lt (Nat.lt_of_lt_of_le ((((((V_va.other W6 (Ne.symm (Exa.neArv f182 f181 (hw _ (List.mem_of_getElem? (i := 132) rfl))))).ext E10).other W12 (Ne.symm (Exa.neArv f182 f181 (hw _ (List.mem_of_getElem? (i := 132) rfl))))).ext E16).other W158 (Ne.symm (Exa.neArv f182 f181 (hw _ (List.mem_of_getElem? (i := 132) rfl))))).other W160 (Ne.symm (Exa.neArv f182 f181 (hw _ (List.mem_of_getElem? (i := 132) rfl))))).lt (Nat.le_of_eq g171.symm))) nin0)).keep Kc202 (ninS (Nat.ne_of_lt (Nat.lt_of_lt_of_le ((((((V_va.other W6 (Ne.symm (Exa.neArv f182 f181 (hw _ (List.mem_of_getElem? (i := 132) rfl))))).ext E10).other W12 (Ne.symm (Exa.neArv f182 f181 (hw _ (List.mem_of_getElem? (i := 132) rfl))))).ext E16).other W158 (Ne.symm (Exa.neArv f182 f181 (hw _ (List.mem_of_getElem? (i := 132) rfl))))).other W160 (Ne.symm (Exa.neArv f182 f181 (hw _ (List.mem_of_getElem? (i := 132) rfl))))).lt (Nat.le_of_eq g171.symm))) nin0)) (O0.keep K202 (allS g_r0 all0)) S_cs hcs) hZ (hw _ (List.mem_of_getElem? (i := 97) rfl)) (hw _ (List.mem_of_getElem? (i := 7) rfl)) (by decide) (by decide)) q205a q205c (g := (mkF m 261 #[rv r0, rv r1, rv b16, .val (.long (own_bit ch)), .second, .val (.long (0 : Int64)), .second, iv (2 : Int32), iv (0 : Int32), .unset] [(.ref r1), (.int (0 : Int32))])) rfl (by rw [hml]; rfl) (Steps.refl _) (argsL := []) (rest := [(.int (0 : Int32))]) (lenOf pd21 rfl) rfl (by show 2 * 0 + _ ≤ _; exact Nat.le_of_eq rfl) (hb hby d28_261) (fun _ _ => ⟨rfl, e202, (by decide : 3 + 0 ≤ _), (by decide : 4 + 0 ≤ _)⟩)
        dsimp only [Pt.U, Pt.locs, Pt.cells, Pt.slots] at X205 l205 y205 z205 st205 hQ205
        subst l205 y205 z205
        obtain ⟨rfl, N205q, hh205⟩ := hQ205
        have N205 := Fr.app N202 N205q
        have pre206 : ∀ t, Steps p.tables e below (T205.setTop (mkF m 270 #[rv r0, rv r1, rv b16, .val (.long (own_bit ch)), .second, .val (.long (0 : Int64)), .second, iv (2 : Int32), iv (0 : Int32), .unset] [(.int (0 : Int32)), (.ref r1)])) t → Steps p.tables e below (s₁.setTop (entryFrame m #[(.ref r0), (.ref r1)] 10)) t := by
          intro t kt
          refine pre203 _ ?_
          show Steps p.tables e below (T202.setTop (mkF m 261 #[rv r0, rv r1, rv b16, .val (.long (own_bit ch)), .second, .val (.long (0 : Int64)), .second, iv (2 : Int32), iv (0 : Int32), .unset] [(.ref r1), (.int (0 : Int32))])) _
          refine st205.trans ?_
          show Steps p.tables e below (T205.setTop (mkF m 264 #[rv r0, rv r1, rv b16, .val (.long (own_bit ch)), .second, .val (.long (0 : Int64)), .second, iv (2 : Int32), iv (0 : Int32), .unset] [(.int (1 : Int32)), (.int (0 : Int32))])) _
          refine XS.icmpNo X205.here hx rfl (hb hby d28_264) rfl (tlt (by decide)).2.1 ?_
          refine XS.aloadN X205.here hx rfl (hb hby d28_267) rfl rfl ?_
          refine XS.iload X205.here hx rfl (hb hby d28_268) rfl ?_
          exact kt
        obtain ⟨cq207, kq207, q207a, q207b, q207c⟩ := isOf hZ hh205 ((f185.keep Kc190).keep Kc202)
        obtain ⟨_, _, ⟨T207, L207, k207, n207⟩, -, X207, ⟨Lc207, hQ207, l207, y207, z207⟩, st207⟩ := X205.virtualBack hx (y := (⟨"java/lang/String", "charAt", "(I)C"⟩ : MethodName)) (z := (⟨"java/lang/String", "charAt", "(I)C"⟩ : MethodName)) hown (mvT hZ (hw _ (List.mem_of_getElem? (i := 144) rfl))) (mvT hZ (hw _ (List.mem_of_getElem? (i := 145) rfl))) (notFace_of_selects (args := #[]) (mvT hZ (hw _ (List.mem_of_getElem? (i := 147) rfl)))) (mvT hZ (hw _ (List.mem_of_getElem? (i := 147) rfl))) (mvT hZ (hw _ (List.mem_of_getElem? (i := 146) rfl))) (by decide) (backOf (W := 0) (rm29 l Z a0 hw [] r1 va kc ch cs fm h202 n0 (Nat.le_trans Z0 K202.1) ((f186.keep Kc190 (ninS (Exa.ne ((f185.keep Kc190).keep Kc202) f204 (by decide)) nin0)).keep Kc202 (ninS (Exa.ne ((f185.keep Kc190).keep Kc202) f204 (by decide)) nin0)) ((f187.keep Kc190 (ninS (Exa.ne ((f185.keep Kc190).keep Kc202) f204 (by decide)) nin0)).keep Kc202 (ninS (Exa.ne ((f185.keep Kc190).keep Kc202) f204 (by decide)) nin0)) ((f185.keep Kc190).keep Kc202) ((f181.keep Kc190 (ninS (Nat.ne_of_lt (Nat.lt_of_lt_of_le ((((((V_va.other W6 (Ne.symm (Exa.neArv f182 f181 (hw _ (List.mem_of_getElem? (i := 132) rfl))))).ext E10).other W12 (Ne.symm (Exa.neArv f182 f181 (hw _ (List.mem_of_getElem? (i := 132) rfl))))).ext E16).other W158 (Ne.symm (Exa.neArv f182 f181 (hw _ (List.mem_of_getElem? (i := 132) rfl))))).other W160 (Ne.symm (Exa.neArv f182 f181 (hw _ (List.mem_of_getElem? (i := 132) rfl))))).lt (Nat.le_of_eq g171.symm))) nin0)).keep Kc202 (ninS (Nat.ne_of_lt (Nat.lt_of_lt_of_le ((((((V_va.other W6 (Ne.symm (Exa.neArv f182 f181 (hw _ (List.mem_of_getElem? (i := 132) rfl))))).ext E10).other W12 (Ne.symm (Exa.neArv f182 f181 (hw _ (List.mem_of_getElem? (i := 132) rfl))))).ext E16).other W158 (Ne.symm (Exa.neArv f182 f181 (hw _ (List.mem_of_getElem? (i := 132) rfl))))).other W160 (Ne.symm (Exa.neArv f182 f181 (hw _ (List.mem_of_getElem? (i := 132) rfl))))).lt (Nat.le_of_eq g171.symm))) nin0)) (O0.keep K202 (allS g_r0 all0)) S_cs hcs S_fm hr_fm hok_ch) hZ (hw _ (List.mem_of_getElem? (i := 148) rfl)) (hw _ (List.mem_of_getElem? (i := 7) rfl)) (by decide) (by decide)) q207a q207c (g := (mkF m 270 #[rv r0, rv r1, rv b16, .val (.long (own_bit ch)), .second, .val (.long (0 : Int64)), .second, iv (2 : Int32), iv (0 : Int32), .unset] [(.int (0 : Int32)), (.ref r1)])) rfl (by rw [hml]; rfl) (Steps.refl _) (argsL := [(.int (0 : Int32))]) (rest := []) (lenOf pd26 rfl) rfl (by show 2 * 0 + _ ≤ _; exact Nat.le_of_eq rfl) (hb hby d28_270) (fun _ _ => ⟨rfl, hh205, (by decide : 3 + 0 ≤ _), (by decide : 4 + 0 ≤ _)⟩)
        dsimp only [Pt.U, Pt.locs, Pt.cells, Pt.slots] at X207 l207 y207 z207 st207 hQ207
        subst l207 y207 z207
        obtain ⟨rfl, N207q, hh207⟩ := hQ207
        have N207 := Fr.app N205 N207q
        have pre208 : ∀ t, Steps p.tables e below (T207.setTop (mkF m 277 #[rv r0, rv r1, rv b16, .val (.long (own_bit ch)), .second, .val (.long (0 : Int64)), .second, iv (2 : Int32), iv (0 : Int32), iv ch] [(.int ch)])) t → Steps p.tables e below (s₁.setTop (entryFrame m #[(.ref r0), (.ref r1)] 10)) t := by
          intro t kt
          refine pre206 _ ?_
          show Steps p.tables e below (T205.setTop (mkF m 270 #[rv r0, rv r1, rv b16, .val (.long (own_bit ch)), .second, .val (.long (0 : Int64)), .second, iv (2 : Int32), iv (0 : Int32), .unset] [(.int (0 : Int32)), (.ref r1)])) _
          refine st207.trans ?_
          show Steps p.tables e below (T207.setTop (mkF m 273 #[rv r0, rv r1, rv b16, .val (.long (own_bit ch)), .second, .val (.long (0 : Int64)), .second, iv (2 : Int32), iv (0 : Int32), .unset] [(.int ch)])) _
          refine XS.istore X207.here hx rfl (hb hby d28_273) rfl (l' := #[rv r0, rv r1, rv b16, .val (.long (own_bit ch)), .second, .val (.long (0 : Int64)), .second, iv (2 : Int32), iv (0 : Int32), iv ch]) rfl ?_
          refine XS.iload X207.here hx rfl (hb hby d28_275) rfl ?_
          exact kt
        obtain ⟨_, _, ⟨T209, L209, k209, n209⟩, -, X209, ⟨Lc209, hQ209, l209, y209, z209⟩, st209⟩ := Jvm.LawKit.callS X207 hx (y := (⟨"com/example/subject/subject/model/Wildcards", "isWildcard", "(I)Z"⟩ : MethodName)) hown (mvT hZ (hw _ (List.mem_of_getElem? (i := 177) rfl))) (mvT hZ (hw _ (List.mem_of_getElem? (i := 2) rfl))) (mvT hZ (hw _ (List.mem_of_getElem? (i := 3) rfl))) (mvT hZ (hw _ (List.mem_of_getElem? (i := 4) rfl))) (by decide) (backOf (W := 0) (rm1 l Z a0 hw [] ch (0 : Int32) h202 n0 (Nat.le_trans Z0 K202.1) ((if_neg hc68).trans (if_neg hc98))) hZ (hw _ (List.mem_of_getElem? (i := 4) rfl)) (hw _ (List.mem_of_getElem? (i := 3) rfl)) (by decide) (by decide)) (g := (mkF m 277 #[rv r0, rv r1, rv b16, .val (.long (own_bit ch)), .second, .val (.long (0 : Int64)), .second, iv (2 : Int32), iv (0 : Int32), iv ch] [(.int ch)])) rfl (by rw [hml]; rfl) (argsL := [(.int ch)]) (rest := []) (lenOf pd18 rfl) rfl (by show 2 * 0 + _ ≤ _; exact Nat.le_of_eq rfl) (hb hby d28_277) (fun _ _ => ⟨rfl, hh207, (by decide : 3 + 0 ≤ _), (by decide : 4 + 0 ≤ _)⟩)
        dsimp only [Pt.U, Pt.locs, Pt.cells, Pt.slots] at X209 l209 y209 z209 st209 hQ209
        subst l209 y209 z209
        obtain ⟨rfl, N209q, hh209⟩ := hQ209
        have N209 := Fr.app N207 N209q
        have pre210 : ∀ t, Steps p.tables e below (T209.setTop (mkF m 284 #[rv r0, rv r1, rv b16, .val (.long (own_bit ch)), .second, .val (.long (0 : Int64)), .second, iv (2 : Int32), iv (0 : Int32), iv ch] [(.ref r0)])) t → Steps p.tables e below (s₁.setTop (entryFrame m #[(.ref r0), (.ref r1)] 10)) t := by
          intro t kt
          refine pre208 _ ?_
          show Steps p.tables e below (T207.setTop (mkF m 277 #[rv r0, rv r1, rv b16, .val (.long (own_bit ch)), .second, .val (.long (0 : Int64)), .second, iv (2 : Int32), iv (0 : Int32), iv ch] [(.int ch)])) _
          refine st209 _ ?_
          show Steps p.tables e below (T209.setTop (mkF m 280 #[rv r0, rv r1, rv b16, .val (.long (own_bit ch)), .second, .val (.long (0 : Int64)), .second, iv (2 : Int32), iv (0 : Int32), iv ch] [(.int (0 : Int32))])) _
          refine XS.ifNo X209.here hx rfl (hb hby d28_280) rfl ((if0 _ _).trans (teq (by decide)).2) ?_
          refine XS.aloadN X209.here hx rfl (hb hby d28_283) rfl rfl ?_
          exact kt
        obtain ⟨T211, X211, e211, st211⟩ := getF X209 hx hZ hown (host := "") (Or.inl (hw _ (List.mem_of_getElem? (i := 171) rfl))) Via.refl hh209 ((Fw173.keep Kc190 (ninS (Exa.ne ((f182.keep Kc190).keep Kc202) f204 (by decide)) nin0)).keep Kc202 (ninS (Exa.ne ((f182.keep Kc190).keep Kc202) f204 (by decide)) nin0)) (g := (mkF m 284 #[rv r0, rv r1, rv b16, .val (.long (own_bit ch)), .second, .val (.long (0 : Int64)), .second, iv (2 : Int32), iv (0 : Int32), iv ch] [(.ref r0)])) rfl rfl (hb hby d28_284)
        have pre212 : ∀ t, Steps p.tables e below (T211.setTop (mkF m 290 #[rv r0, rv r1, rv b16, .val (.long (own_bit ch)), .second, .val (.long (0 : Int64)), .second, iv (2 : Int32), iv (0 : Int32), iv ch] [(.int ch), (.ref r0), (.ref b171)])) t → Steps p.tables e below (s₁.setTop (entryFrame m #[(.ref r0), (.ref r1)] 10)) t := by
          intro t kt
          refine pre210 _ ?_
          show Steps p.tables e below (T209.setTop (mkF m 284 #[rv r0, rv r1, rv b16, .val (.long (own_bit ch)), .second, .val (.long (0 : Int64)), .second, iv (2 : Int32), iv (0 : Int32), iv ch] [(.ref r0)])) _
          refine st211 _ ?_
          show Steps p.tables e below (T211.setTop (mkF m 287 #[rv r0, rv r1, rv b16, .val (.long (own_bit ch)), .second, .val (.long (0 : Int64)), .second, iv (2 : Int32), iv (0 : Int32), iv ch] [(.ref b171)])) _
          refine XS.aloadN X211.here hx rfl (hb hby d28_287) rfl rfl ?_
          refine XS.iload X211.here hx rfl (hb hby d28_288) rfl ?_
          exact kt
        obtain ⟨cq213, q213, q213'⟩ := ((f182.keep Kc190).keep Kc202).cell
        obtain ⟨_, _, ⟨T213, L213, k213, n213⟩, -, X213, ⟨Lc213, hQ213, l213, y213, z213⟩, st213⟩ := X211.privateBack hx (y := (⟨"com/example/subject/subject/model/Wildcards$Places", "slot", "(C)I"⟩ : MethodName)) hown (mvT hZ (hw _ (List.mem_of_getElem? (i := 178) rfl))) (mvT hZ (hw _ (List.mem_of_getElem? (i := 179) rfl))) (own_selp (y := (⟨"com/example/subject/subject/model/Wildcards$Places", "slot", "(C)I"⟩ : MethodName)) (mvT hZ (hw _ (List.mem_of_getElem? (i := 132) rfl))) (Cond.privateMethod_at (mvP hZ (hw _ (List.mem_of_getElem? (i := 180) rfl)) (args := #[]))) (mvT hZ (hw _ (List.mem_of_getElem? (i := 179) rfl))) (by decide)) (Cond.privateMethod_at (mvP hZ (hw _ (List.mem_of_getElem? (i := 180) rfl)) (args := #[]))) (mvT hZ (hw _ (List.mem_of_getElem? (i := 181) rfl))) (by decide) (backOf (W := 1) (rm34L l Z a0 hw [] r0 ch h202 n0 (Nat.le_trans Z0 K202.1) ((f184.keep Kc190 (ninS (Exa.ne ((f182.keep Kc190).keep Kc202) f204 (by decide)) nin0)).keep Kc202 (ninS (Exa.ne ((f182.keep Kc190).keep Kc202) f204 (by decide)) nin0)) (f198.keep Kc202 (ninS (Exa.ne ((f182.keep Kc190).keep Kc202) f204 (by decide)) nin0)) ((f182.keep Kc190).keep Kc202) hok_ch hc125) hZ (hw _ (List.mem_of_getElem? (i := 181) rfl)) (hw _ (List.mem_of_getElem? (i := 133) rfl)) (by decide) (by decide)) (g := (mkF m 290 #[rv r0, rv r1, rv b16, .val (.long (own_bit ch)), .second, .val (.long (0 : Int64)), .second, iv (2 : Int32), iv (0 : Int32), iv ch] [(.int ch), (.ref r0), (.ref b171)])) rfl (by rw [hml]; rfl) (Steps.refl _) (a := r0) (by rw [e211]; exact q213) q213' (argsL := [(.int ch)]) (rest := [(.ref b171)]) (lenOf pd27 rfl) rfl (by show 2 * 0 + _ ≤ _; exact Nat.le_of_eq rfl) (hb hby d28_290) (fun _ _ => ⟨rfl, e211, (by decide : 3 + 0 ≤ _), (by decide : 4 + 0 ≤ _)⟩)
        dsimp only [Pt.U, Pt.locs, Pt.cells, Pt.slots] at X213 l213 y213 z213 st213 hQ213
        subst l213 y213 z213
        obtain ⟨rfl, N213q, hh213⟩ := hQ213
        have N213 := Fr.app N209 N213q
        have pre214 : ∀ t, Steps p.tables e below (T213.setTop (mkF m 294 #[rv r0, rv r1, rv b16, .val (.long (own_bit ch)), .second, .val (.long (0 : Int64)), .second, iv (2 : Int32), iv (0 : Int32), iv ch] [(.ref r0), (.int (1 : Int32)), (.ref b171)])) t → Steps p.tables e below (s₁.setTop (entryFrame m #[(.ref r0), (.ref r1)] 10)) t := by
          intro t kt
          refine pre212 _ ?_
          show Steps p.tables e below (T211.setTop (mkF m 290 #[rv r0, rv r1, rv b16, .val (.long (own_bit ch)), .second, .val (.long (0 : Int64)), .second, iv (2 : Int32), iv (0 : Int32), iv ch] [(.int ch), (.ref r0), (.ref b171)])) _
          refine st213.trans ?_
          show Steps p.tables e below (T213.setTop (mkF m 293 #[rv r0, rv r1, rv b16, .val (.long (own_bit ch)), .second, .val (.long (0 : Int64)), .second, iv (2 : Int32), iv (0 : Int32), iv ch] [(.int (1 : Int32)), (.ref b171)])) _
          refine XS.aloadN X213.here hx rfl (hb hby d28_293) rfl rfl ?_
          exact kt
        obtain ⟨T215, X215, e215, st215⟩ := getF X213 hx hZ hown (host := "") (Or.inl (hw _ (List.mem_of_getElem? (i := 139) rfl))) Via.refl hh213 ((f183.keep Kc190 (ninS (Exa.ne ((f182.keep Kc190).keep Kc202) f204 (by decide)) nin0)).keep Kc202 (ninS (Exa.ne ((f182.keep Kc190).keep Kc202) f204 (by decide)) nin0)) (g := (mkF m 294 #[rv r0, rv r1, rv b16, .val (.long (own_bit ch)), .second, .val (.long (0 : Int64)), .second, iv (2 : Int32), iv (0 : Int32), iv ch] [(.ref r0), (.int (1 : Int32)), (.ref b171)])) rfl rfl (hb hby d28_294)
        obtain ⟨cl216, Ar216, q216, S216, M216, H216, G216⟩ := id V202
        have hin216 : ¬ ((1 : Int32) < 0 ∨ cl216.slots.size ≤ ((1 : Int32)).toNatClampNeg) := inb_of S216 ⟨by decide, by decide⟩
        have hat216 : cl216.slots[((1 : Int32)).toNatClampNeg]? = some (.long (0 : Int64)) := H216.at hin216 rfl
        have pre217 : ∀ t, Steps p.tables e below (T215.setTop (mkF m 314 #[rv r0, rv r1, rv b16, .val (.long (own_bit ch)), .second, .val (.long (0 : Int64)), .second, iv (2 : Int32), iv (0 : Int32), iv ch] [(.long (1 : Int64)), (.int (1 : Int32)), (.ref b171)])) t → Steps p.tables e below (s₁.setTop (entryFrame m #[(.ref r0), (.ref r1)] 10)) t := by
          intro t kt
          refine pre214 _ ?_
          show Steps p.tables e below (T213.setTop (mkF m 294 #[rv r0, rv r1, rv b16, .val (.long (own_bit ch)), .second, .val (.long (0 : Int64)), .second, iv (2 : Int32), iv (0 : Int32), iv ch] [(.ref r0), (.int (1 : Int32)), (.ref b171)])) _
          refine st215 _ ?_
          show Steps p.tables e below (T215.setTop (mkF m 297 #[rv r0, rv r1, rv b16, .val (.long (own_bit ch)), .second, .val (.long (0 : Int64)), .second, iv (2 : Int32), iv (0 : Int32), iv ch] [(.int (1 : Int32)), (.int (1 : Int32)), (.ref b171)])) _
          refine XS.imul X215.here hx rfl (hb hby d28_297) rfl ?_
          show Steps p.tables e below (T215.setTop (mkF m 298 #[rv r0, rv r1, rv b16, .val (.long (own_bit ch)), .second, .val (.long (0 : Int64)), .second, iv (2 : Int32), iv (0 : Int32), iv ch] [(.int ((1 : Int32) * (1 : Int32))), (.ref b171)])) _
          rw [show ((1 : Int32) * (1 : Int32)) = (1 : Int32) from (by decide)]
          show Steps p.tables e below (T215.setTop (mkF m 298 #[rv r0, rv r1, rv b16, .val (.long (own_bit ch)), .second, .val (.long (0 : Int64)), .second, iv (2 : Int32), iv (0 : Int32), iv ch] [(.int (1 : Int32)), (.ref b171)])) _
          refine XS.iload X215.here hx rfl (hb hby d28_298) rfl ?_
          refine XS.bipush X215.here hx rfl (hb hby d28_300) ?_
          refine XS.idiv X215.here hx rfl (hb hby d28_302) rfl (by decide) ?_
          show Steps p.tables e below (T215.setTop (mkF m 303 #[rv r0, rv r1, rv b16, .val (.long (own_bit ch)), .second, .val (.long (0 : Int64)), .second, iv (2 : Int32), iv (0 : Int32), iv ch] [(.int ((0 : Int32) / (64 : Int32))), (.int (1 : Int32)), (.ref b171)])) _
          rw [show ((0 : Int32) / (64 : Int32)) = (0 : Int32) from (by decide)]
          show Steps p.tables e below (T215.setTop (mkF m 303 #[rv r0, rv r1, rv b16, .val (.long (own_bit ch)), .second, .val (.long (0 : Int64)), .second, iv (2 : Int32), iv (0 : Int32), iv ch] [(.int (0 : Int32)), (.int (1 : Int32)), (.ref b171)])) _
          refine XS.iadd X215.here hx rfl (hb hby d28_303) rfl ?_
          show Steps p.tables e below (T215.setTop (mkF m 304 #[rv r0, rv r1, rv b16, .val (.long (own_bit ch)), .second, .val (.long (0 : Int64)), .second, iv (2 : Int32), iv (0 : Int32), iv ch] [(.int ((1 : Int32) + (0 : Int32))), (.ref b171)])) _
          rw [show ((1 : Int32) + (0 : Int32)) = (1 : Int32) from (by decide)]
          show Steps p.tables e below (T215.setTop (mkF m 304 #[rv r0, rv r1, rv b16, .val (.long (own_bit ch)), .second, .val (.long (0 : Int64)), .second, iv (2 : Int32), iv (0 : Int32), iv ch] [(.int (1 : Int32)), (.ref b171)])) _
          refine XT.dup2 X215.here hx rfl (hb hby d28_304) rfl rfl rfl ?_
          show Steps p.tables e below (T215.setTop (mkF m 305 #[rv r0, rv r1, rv b16, .val (.long (own_bit ch)), .second, .val (.long (0 : Int64)), .second, iv (2 : Int32), iv (0 : Int32), iv ch] [(.int (1 : Int32)), (.ref b171), (.int (1 : Int32)), (.ref b171)])) _
          refine X215.laload hx (j := (1 : Int32)) (v := (.long (0 : Int64))) (by rw [e215]; exact Ar216.1) (State.isArrayOf_alike hZ.alike Ar216.2.1) Ar216.2.2 hin216 hat216 (g := (mkF m 305 #[rv r0, rv r1, rv b16, .val (.long (own_bit ch)), .second, .val (.long (0 : Int64)), .second, iv (2 : Int32), iv (0 : Int32), iv ch] [(.int (1 : Int32)), (.ref b171), (.int (1 : Int32)), (.ref b171)])) rfl rfl (hb hby d28_305) _ ?_
          show Steps p.tables e below (T215.setTop (mkF m 306 #[rv r0, rv r1, rv b16, .val (.long (own_bit ch)), .second, .val (.long (0 : Int64)), .second, iv (2 : Int32), iv (0 : Int32), iv ch] [(.long (0 : Int64)), (.int (1 : Int32)), (.ref b171)])) _
          refine XS.lconst X215.here hx rfl (hb hby d28_306) ?_
          refine XS.iload X215.here hx rfl (hb hby d28_307) rfl ?_
          refine XS.bipush X215.here hx rfl (hb hby d28_309) ?_
          refine iremM X215 hx rfl (hb hby d28_311) rfl (by decide) ?_
          show Steps p.tables e below (T215.setTop (mkF m 312 #[rv r0, rv r1, rv b16, .val (.long (own_bit ch)), .second, .val (.long (0 : Int64)), .second, iv (2 : Int32), iv (0 : Int32), iv ch] [(.int ((0 : Int32) % (64 : Int32))), (.long (1 : Int64)), (.long (0 : Int64)), (.int (1 : Int32)), (.ref b171)])) _
          rw [show ((0 : Int32) % (64 : Int32)) = (0 : Int32) from (by decide)]
          show Steps p.tables e below (T215.setTop (mkF m 312 #[rv r0, rv r1, rv b16, .val (.long (own_bit ch)), .second, .val (.long (0 : Int64)), .second, iv (2 : Int32), iv (0 : Int32), iv ch] [(.int (0 : Int32)), (.long (1 : Int64)), (.long (0 : Int64)), (.int (1 : Int32)), (.ref b171)])) _
          refine XS.lshl X215.here hx rfl (hb hby d28_312) rfl ?_
          show Steps p.tables e below (T215.setTop (mkF m 313 #[rv r0, rv r1, rv b16, .val (.long (own_bit ch)), .second, .val (.long (0 : Int64)), .second, iv (2 : Int32), iv (0 : Int32), iv ch] [(.long ((1 : Int64) <<< ((0 : Int32) &&& 0x3f).toInt64)), (.long (0 : Int64)), (.int (1 : Int32)), (.ref b171)])) _
          rw [show ((1 : Int64) <<< ((0 : Int32) &&& 0x3f).toInt64) = (1 : Int64) from (by decide)]
          show Steps p.tables e below (T215.setTop (mkF m 313 #[rv r0, rv r1, rv b16, .val (.long (own_bit ch)), .second, .val (.long (0 : Int64)), .second, iv (2 : Int32), iv (0 : Int32), iv ch] [(.long (1 : Int64)), (.long (0 : Int64)), (.int (1 : Int32)), (.ref b171)])) _
          refine XS.lor X215.here hx rfl (hb hby d28_313) rfl ?_
          show Steps p.tables e below (T215.setTop (mkF m 314 #[rv r0, rv r1, rv b16, .val (.long (own_bit ch)), .second, .val (.long (0 : Int64)), .second, iv (2 : Int32), iv (0 : Int32), iv ch] [(.long ((0 : Int64) ||| (1 : Int64))), (.int (1 : Int32)), (.ref b171)])) _
          rw [show ((0 : Int64) ||| (1 : Int64)) = (1 : Int64) from (by decide)]
          exact kt
        obtain ⟨cl218, Ar218, q218, S218, M218, H218, G218⟩ := id V202
        have hin218 : ¬ ((1 : Int32) < 0 ∨ cl218.slots.size ≤ ((1 : Int32)).toNatClampNeg) := inb_of S218 ⟨by decide, by decide⟩
        obtain ⟨T218, h218, X218, e218, W218, st218⟩ := stJ X215 hx hZ e215 Ar218 (j := (1 : Int32)) hin218 (g := (mkF m 314 #[rv r0, rv r1, rv b16, .val (.long (own_bit ch)), .second, .val (.long (0 : Int64)), .second, iv (2 : Int32), iv (0 : Int32), iv ch] [(.long (1 : Int64)), (.int (1 : Int32)), (.ref b171)])) rfl rfl (hb hby d28_314)
        have V218 : Arv Z h218 b171 k171 .long (2 : Int32) [(.long (0 : Int64)), (.long (1 : Int64))] (.long (0 : Int64)) := Arv.set Ar218 q218 S218 M218 H218 G218 rfl W218 1 rfl (Nat.le_of_ble_eq_true rfl)
        have K218 : Keep h0 h218 [r0] := K202.wr W218 (Or.inr sz_b171)
        have N218 := Fr.snoc X218 N213 g_b171
        have pre219 : ∀ t, Steps p.tables e below (T218.setTop (mkF m 261 #[rv r0, rv r1, rv b16, .val (.long (own_bit ch)), .second, .val (.long (0 : Int64)), .second, iv (2 : Int32), iv (1 : Int32), iv ch] [(.ref r1), (.int (1 : Int32))])) t → Steps p.tables e below (s₁.setTop (entryFrame m #[(.ref r0), (.ref r1)] 10)) t := by
          intro t kt
          refine pre217 _ ?_
          show Steps p.tables e below (T215.setTop (mkF m 314 #[rv r0, rv r1, rv b16, .val (.long (own_bit ch)), .second, .val (.long (0 : Int64)), .second, iv (2 : Int32), iv (0 : Int32), iv ch] [(.long (1 : Int64)), (.int (1 : Int32)), (.ref b171)])) _
          refine st218 _ ?_
          show Steps p.tables e below (T218.setTop (mkF m 315 #[rv r0, rv r1, rv b16, .val (.long (own_bit ch)), .second, .val (.long (0 : Int64)), .second, iv (2 : Int32), iv (0 : Int32), iv ch] [])) _
          refine XS.iinc X218.here hx rfl (hb hby d28_315) rfl (l' := #[rv r0, rv r1, rv b16, .val (.long (own_bit ch)), .second, .val (.long (0 : Int64)), .second, iv (2 : Int32), iv ((0 : Int32) + (1 : Int32)), iv ch]) rfl ?_
          show Steps p.tables e below (T218.setTop (mkF m 318 #[rv r0, rv r1, rv b16, .val (.long (own_bit ch)), .second, .val (.long (0 : Int64)), .second, iv (2 : Int32), iv ((0 : Int32) + (1 : Int32)), iv ch] [])) _
          rw [show ((0 : Int32) + (1 : Int32)) = (1 : Int32) from (by decide)]
          show Steps p.tables e below (T218.setTop (mkF m 318 #[rv r0, rv r1, rv b16, .val (.long (own_bit ch)), .second, .val (.long (0 : Int64)), .second, iv (2 : Int32), iv (1 : Int32), iv ch] [])) _
          refine XS.goto X218.here hx rfl (pc0 := 318) (pc' := 258) rfl (hb hby d28_318) (by decide) (by decide) ?_
          refine XS.iload X218.here hx rfl (hb hby d28_258) rfl ?_
          refine XS.aloadN X218.here hx rfl (hb hby d28_260) rfl rfl ?_
          exact kt
        have f220 := (((f181.keep Kc190 (ninS (Nat.ne_of_lt (Nat.lt_of_lt_of_le ((((((V_va.other W6 (Ne.symm (Exa.neArv f182 f181 (hw _ (List.mem_of_getElem? (i := 132) rfl))))).ext E10).other W12 (Ne.symm (Exa.neArv f182 f181 (hw _ (List.mem_of_getElem? (i := 132) rfl))))).ext E16).other W158 (Ne.symm (Exa.neArv f182 f181 (hw _ (List.mem_of_getElem? (i := 132) rfl))))).other W160 (Ne.symm (Exa.neArv f182 f181 (hw _ (List.mem_of_getElem? (i := 132) rfl))))).lt (Nat.le_of_eq g171.symm))) nin0)).keep Kc202 (ninS (Nat.ne_of_lt (Nat.lt_of_lt_of_le ((((((V_va.other W6 (Ne.symm (Exa.neArv f182 f181 (hw _ (List.mem_of_getElem? (i := 132) rfl))))).ext E10).other W12 (Ne.symm (Exa.neArv f182 f181 (hw _ (List.mem_of_getElem? (i := 132) rfl))))).ext E16).other W158 (Ne.symm (Exa.neArv f182 f181 (hw _ (List.mem_of_getElem? (i := 132) rfl))))).other W160 (Ne.symm (Exa.neArv f182 f181 (hw _ (List.mem_of_getElem? (i := 132) rfl))))).lt (Nat.le_of_eq g171.symm))) nin0)).other W218 (Nat.ne_of_lt (Nat.lt_of_lt_of_le ((((((V_va.other W6 (Ne.symm (Exa.neArv f182 f181 (hw _ (List.mem_of_getElem? (i := 132) rfl))))).ext E10).other W12 (Ne.symm (Exa.neArv f182 f181 (hw _ (List.mem_of_getElem? (i := 132) rfl))))).ext E16).other W158 (Ne.symm (Exa.neArv f182 f181 (hw _ (List.mem_of_getElem? (i := 132) rfl))))).other W160 (Ne.symm (Exa.neArv f182 f181 (hw _ (List.mem_of_getElem? (i := 132) rfl))))).lt (Nat.le_of_eq g171.symm))))
        have f221 := (((f182.keep Kc190).keep Kc202).wr W218)
        have f222 := (((f183.keep Kc190 (ninS (Exa.ne f221 (f204.wr W218) (by decide)) nin0)).keep Kc202 (ninS (Exa.ne f221 (f204.wr W218) (by decide)) nin0)).other W218 (Or.inl (Exa.ne f221 (f204.wr W218) (by decide))))
        have f223 := (((f184.keep Kc190 (ninS (Exa.ne f221 (f204.wr W218) (by decide)) nin0)).keep Kc202 (ninS (Exa.ne f221 (f204.wr W218) (by decide)) nin0)).other W218 (Or.inl (Exa.ne f221 (f204.wr W218) (by decide))))
        have f224 := (((Fw173.keep Kc190 (ninS (Exa.ne f221 (f204.wr W218) (by decide)) nin0)).keep Kc202 (ninS (Exa.ne f221 (f204.wr W218) (by decide)) nin0)).other W218 (Or.inl (Exa.ne f221 (f204.wr W218) (by decide))))
        have f225 := (((f185.keep Kc190).keep Kc202).wr W218)
        have f226 := (((f186.keep Kc190 (ninS (Exa.ne f225 (f204.wr W218) (by decide)) nin0)).keep Kc202 (ninS (Exa.ne f225 (f204.wr W218) (by decide)) nin0)).other W218 (Or.inl (Exa.ne f225 (f204.wr W218) (by decide))))
        have f227 := (((f187.keep Kc190 (ninS (Exa.ne f225 (f204.wr W218) (by decide)) nin0)).keep Kc202 (ninS (Exa.ne f225 (f204.wr W218) (by decide)) nin0)).other W218 (Or.inl (Exa.ne f225 (f204.wr W218) (by decide))))
        have f228 := (((f188.keep Kc190 (ninS (Nat.ne_of_lt (Nat.lt_of_lt_of_le ((V_b16.other W158 (Exa.ne (((f189.keep Kc190).keep Kc202).wr W218) f221 (by decide))).other W160 (Exa.ne (((f189.keep Kc190).keep Kc202).wr W218) f221 (by decide))).lt (Nat.le_of_eq g171.symm))) nin0)).keep Kc202 (ninS (Nat.ne_of_lt (Nat.lt_of_lt_of_le ((V_b16.other W158 (Exa.ne (((f189.keep Kc190).keep Kc202).wr W218) f221 (by decide))).other W160 (Exa.ne (((f189.keep Kc190).keep Kc202).wr W218) f221 (by decide))).lt (Nat.le_of_eq g171.symm))) nin0)).other W218 (Nat.ne_of_lt (Nat.lt_of_lt_of_le ((V_b16.other W158 (Exa.ne (((f189.keep Kc190).keep Kc202).wr W218) f221 (by decide))).other W160 (Exa.ne (((f189.keep Kc190).keep Kc202).wr W218) f221 (by decide))).lt (Nat.le_of_eq g171.symm))))
        have f229 := (((f189.keep Kc190).keep Kc202).wr W218)
        obtain ⟨cq230, kq230, q230a, q230b, q230c⟩ := isOf hZ e218 f225
        obtain ⟨_, _, ⟨T230, L230, k230, n230⟩, -, X230, ⟨Lc230, hQ230, l230, y230, z230⟩, st230⟩ := X218.virtualBack hx (y := (⟨"java/lang/String", "length", "()I"⟩ : MethodName)) (z := (⟨"java/lang/String", "length", "()I"⟩ : MethodName)) hown (mvT hZ (hw _ (List.mem_of_getElem? (i := 138) rfl))) (mvT hZ (hw _ (List.mem_of_getElem? (i := 94) rfl))) (notFace_of_selects (args := #[]) (mvT hZ (hw _ (List.mem_of_getElem? (i := 96) rfl)))) (mvT hZ (hw _ (List.mem_of_getElem? (i := 96) rfl))) (mvT hZ (hw _ (List.mem_of_getElem? (i := 95) rfl))) (by decide) (backOf (W := 1) (rm19 l Z a0 hw [] r1 va kc ch cs h218 n0 (Nat.le_trans Z0 K218.1) f226 f227 f225 f220 (O0.keep K218 (allS g_r0 all0)) S_cs hcs) hZ (hw _ (List.mem_of_getElem? (i := 97) rfl)) (hw _ (List.mem_of_getElem? (i := 7) rfl)) (by decide) (by decide)) q230a q230c (g := (mkF m 261 #[rv r0, rv r1, rv b16, .val (.long (own_bit ch)), .second, .val (.long (0 : Int64)), .second, iv (2 : Int32), iv (1 : Int32), iv ch] [(.ref r1), (.int (1 : Int32))])) rfl (by rw [hml]; rfl) (Steps.refl _) (argsL := []) (rest := [(.int (1 : Int32))]) (lenOf pd21 rfl) rfl (by show 2 * 0 + _ ≤ _; exact Nat.le_of_eq rfl) (hb hby d28_261) (fun _ _ => ⟨rfl, e218, (by decide : 3 + 0 ≤ _), (by decide : 4 + 0 ≤ _)⟩)
        dsimp only [Pt.U, Pt.locs, Pt.cells, Pt.slots] at X230 l230 y230 z230 st230 hQ230
        subst l230 y230 z230
        obtain ⟨rfl, N230q, hh230⟩ := hQ230
        have N230 := Fr.app N218 N230q
        have pre231 : ∀ t, Steps p.tables e below (T230.setTop (mkF m 321 #[rv r0, rv r1, rv b16, .val (.long (own_bit ch)), .second, .val (.long (0 : Int64)), .second, iv (2 : Int32), iv (1 : Int32), iv ch] [])) t → Steps p.tables e below (s₁.setTop (entryFrame m #[(.ref r0), (.ref r1)] 10)) t := by
          intro t kt
          refine pre219 _ ?_
          show Steps p.tables e below (T218.setTop (mkF m 261 #[rv r0, rv r1, rv b16, .val (.long (own_bit ch)), .second, .val (.long (0 : Int64)), .second, iv (2 : Int32), iv (1 : Int32), iv ch] [(.ref r1), (.int (1 : Int32))])) _
          refine st230.trans ?_
          show Steps p.tables e below (T230.setTop (mkF m 264 #[rv r0, rv r1, rv b16, .val (.long (own_bit ch)), .second, .val (.long (0 : Int64)), .second, iv (2 : Int32), iv (1 : Int32), iv ch] [(.int (1 : Int32)), (.int (1 : Int32))])) _
          refine XS.icmpYes X230.here hx rfl (pc0 := 264) (pc' := 321) rfl (hb hby d28_264) rfl (flt (by decide)).2.1 (by decide) (by decide) ?_
          exact kt
        obtain ⟨fs, hr, hrun, hended, hW, hsame⟩ := X230.leave (v := none) (fun _ => rfl)
        refine ⟨_, _, pre231 _ ?_, hrun, hended, _, _, rfl, ?_, ⟨_, rfl⟩, hW, hsame.mono (by decide) (by decide)⟩
        · show Steps p.tables e below (T230.setTop (mkF m 321 #[rv r0, rv r1, rv b16, .val (.long (own_bit ch)), .second, .val (.long (0 : Int64)), .second, iv (2 : Int32), iv (1 : Int32), iv ch] [])) _
          exact X230.returnOut hx Bd.returns (hb hby d28_321) hr
        · show Q28 Z r0 r1 va kc ch cs fm h0 n0 _ T230.heap _
          rw [hh230]
          exact ⟨rfl, N230, K218⟩
      · have pre233 : ∀ t, Steps p.tables e below (T29.setTop (mkF m 143 #[rv r0, rv r1, rv b16, .val (.long (0 : Int64)), .second, .val (.long (0 : Int64)), .second, iv (0 : Int32), iv ch, .unset] [(.int (128 : Int32)), (.int ch)])) t → Steps p.tables e below (s₁.setTop (entryFrame m #[(.ref r0), (.ref r1)] 10)) t := by
          intro t kt
          refine pre154 _ ?_
          show Steps p.tables e below (T29.setTop (mkF m 125 #[rv r0, rv r1, rv b16, .val (.long (0 : Int64)), .second, .val (.long (0 : Int64)), .second, iv (0 : Int32), iv ch, .unset] [(.int (64 : Int32)), (.int ch)])) _
          refine XS.icmpYes X29.here hx rfl (pc0 := 125) (pc' := 138) rfl (hb hby d28_125) rfl (flt hc125).2.1 (by decide) (by decide) ?_
          refine XS.iload X29.here hx rfl (hb hby d28_138) rfl ?_
          refine XS.sipush X29.here hx rfl (hb hby d28_140) ?_
          exact kt
        have hc143_232 : ch < (128 : Int32) := hok_ch.2
        have pre234 : ∀ t, Steps p.tables e below (T29.setTop (mkF m 50 #[rv r0, rv r1, rv b16, .val (.long (0 : Int64)), .second, .val (.long (own_bit (ch - (64 : Int32)))), .second, iv (1 : Int32), iv ch, .unset] [(.ref r1), (.int (1 : Int32))])) t → Steps p.tables e below (s₁.setTop (entryFrame m #[(.ref r0), (.ref r1)] 10)) t := by
          intro t kt
          refine pre233 _ ?_
          show Steps p.tables e below (T29.setTop (mkF m 143 #[rv r0, rv r1, rv b16, .val (.long (0 : Int64)), .second, .val (.long (0 : Int64)), .second, iv (0 : Int32), iv ch, .unset] [(.int (128 : Int32)), (.int ch)])) _
          refine XS.icmpNo X29.here hx rfl (hb hby d28_143) rfl (tlt hc143_232).2.1 ?_
          refine XS.lload X29.here hx rfl (hb hby d28_146) rfl ?_
          refine XS.lconst X29.here hx rfl (hb hby d28_148) ?_
          refine XS.iload X29.here hx rfl (hb hby d28_149) rfl ?_
          refine XS.bipush X29.here hx rfl (hb hby d28_151) ?_
          refine XS.isub X29.here hx rfl (hb hby d28_153) rfl ?_
          refine XS.lshl X29.here hx rfl (hb hby d28_154) rfl ?_
          refine XS.lor X29.here hx rfl (hb hby d28_155) rfl ?_
          show Steps p.tables e below (T29.setTop (mkF m 156 #[rv r0, rv r1, rv b16, .val (.long (0 : Int64)), .second, .val (.long (0 : Int64)), .second, iv (0 : Int32), iv ch, .unset] [(.long ((0 : Int64) ||| ((1 : Int64) <<< ((ch - (64 : Int32)) &&& 0x3f).toInt64)))])) _
          rw [show ((0 : Int64) ||| ((1 : Int64) <<< ((ch - (64 : Int32)) &&& 0x3f).toInt64)) = (own_bit (ch - (64 : Int32))) from rfl]
          show Steps p.tables e below (T29.setTop (mkF m 156 #[rv r0, rv r1, rv b16, .val (.long (0 : Int64)), .second, .val (.long (0 : Int64)), .second, iv (0 : Int32), iv ch, .unset] [(.long (own_bit (ch - (64 : Int32))))])) _
          refine XS.lstore X29.here hx rfl (hb hby d28_156) rfl (l' := #[rv r0, rv r1, rv b16, .val (.long (0 : Int64)), .second, .val (.long (own_bit (ch - (64 : Int32)))), .second, iv (0 : Int32), iv ch, .unset]) rfl ?_
          refine XS.goto X29.here hx rfl (pc0 := 158) (pc' := 175) rfl (hb hby d28_158) (by decide) (by decide) ?_
          refine XS.iinc X29.here hx rfl (hb hby d28_175) rfl (l' := #[rv r0, rv r1, rv b16, .val (.long (0 : Int64)), .second, .val (.long (own_bit (ch - (64 : Int32)))), .second, iv ((0 : Int32) + (1 : Int32)), iv ch, .unset]) rfl ?_
          show Steps p.tables e below (T29.setTop (mkF m 178 #[rv r0, rv r1, rv b16, .val (.long (0 : Int64)), .second, .val (.long (own_bit (ch - (64 : Int32)))), .second, iv ((0 : Int32) + (1 : Int32)), iv ch, .unset] [])) _
          rw [show ((0 : Int32) + (1 : Int32)) = (1 : Int32) from (by decide)]
          show Steps p.tables e below (T29.setTop (mkF m 178 #[rv r0, rv r1, rv b16, .val (.long (0 : Int64)), .second, .val (.long (own_bit (ch - (64 : Int32)))), .second, iv (1 : Int32), iv ch, .unset] [])) _
          refine XS.goto X29.here hx rfl (pc0 := 178) (pc' := 47) rfl (hb hby d28_178) (by decide) (by decide) ?_
          refine XS.iload X29.here hx rfl (hb hby d28_47) rfl ?_
          refine XS.aloadN X29.here hx rfl (hb hby d28_49) rfl rfl ?_
          exact kt
        obtain ⟨cq235, kq235, q235a, q235b, q235c⟩ := isOf hZ hh29 f24
        obtain ⟨_, _, ⟨T235, L235, k235, n235⟩, -, X235, ⟨Lc235, hQ235, l235, y235, z235⟩, st235⟩ := X29.virtualBack hx (y := (⟨"java/lang/String", "length", "()I"⟩ : MethodName)) (z := (⟨"java/lang/String", "length", "()I"⟩ : MethodName)) hown (mvT hZ (hw _ (List.mem_of_getElem? (i := 138) rfl))) (mvT hZ (hw _ (List.mem_of_getElem? (i := 94) rfl))) (notFace_of_selects (args := #[]) (mvT hZ (hw _ (List.mem_of_getElem? (i := 96) rfl)))) (mvT hZ (hw _ (List.mem_of_getElem? (i := 96) rfl))) (mvT hZ (hw _ (List.mem_of_getElem? (i := 95) rfl))) (by decide) (backOf (W := 1) (rm19 l Z a0 hw [] r1 va kc ch cs h16 n0 (Nat.le_trans Z0 K16.1) f25 f26 f24 f18 (O0.keep K16 (allS g_r0 all0)) S_cs hcs) hZ (hw _ (List.mem_of_getElem? (i := 97) rfl)) (hw _ (List.mem_of_getElem? (i := 7) rfl)) (by decide) (by decide)) q235a q235c (g := (mkF m 50 #[rv r0, rv r1, rv b16, .val (.long (0 : Int64)), .second, .val (.long (own_bit (ch - (64 : Int32)))), .second, iv (1 : Int32), iv ch, .unset] [(.ref r1), (.int (1 : Int32))])) rfl (by rw [hml]; rfl) (Steps.refl _) (argsL := []) (rest := [(.int (1 : Int32))]) (lenOf pd21 rfl) rfl (by show 2 * 0 + _ ≤ _; exact Nat.le_of_eq rfl) (hb hby d28_50) (fun _ _ => ⟨rfl, hh29, (by decide : 2 + 0 ≤ _), (by decide : 2 + 0 ≤ _)⟩)
        dsimp only [Pt.U, Pt.locs, Pt.cells, Pt.slots] at X235 l235 y235 z235 st235 hQ235
        subst l235 y235 z235
        obtain ⟨rfl, N235q, hh235⟩ := hQ235
        have N235 := Fr.app N29 N235q
        have pre236 : ∀ t, Steps p.tables e below (T235.setTop (mkF m 183 #[rv r0, rv r1, rv b16, .val (.long (0 : Int64)), .second, .val (.long (own_bit (ch - (64 : Int32)))), .second, iv (1 : Int32), iv ch, .unset] [(.long (0 : Int64)), (.ref r0)])) t → Steps p.tables e below (s₁.setTop (entryFrame m #[(.ref r0), (.ref r1)] 10)) t := by
          intro t kt
          refine pre234 _ ?_
          show Steps p.tables e below (T29.setTop (mkF m 50 #[rv r0, rv r1, rv b16, .val (.long (0 : Int64)), .second, .val (.long (own_bit (ch - (64 : Int32)))), .second, iv (1 : Int32), iv ch, .unset] [(.ref r1), (.int (1 : Int32))])) _
          refine st235.trans ?_
          show Steps p.tables e below (T235.setTop (mkF m 53 #[rv r0, rv r1, rv b16, .val (.long (0 : Int64)), .second, .val (.long (own_bit (ch - (64 : Int32)))), .second, iv (1 : Int32), iv ch, .unset] [(.int (1 : Int32)), (.int (1 : Int32))])) _
          refine XS.icmpYes X235.here hx rfl (pc0 := 53) (pc' := 181) rfl (hb hby d28_53) rfl (flt (by decide)).2.1 (by decide) (by decide) ?_
          refine XS.aloadN X235.here hx rfl (hb hby d28_181) rfl rfl ?_
          refine XS.lloadN X235.here hx rfl (hb hby d28_182) rfl ?_
          exact kt
        obtain ⟨T237, h237, X237, e237, W237, st237⟩ := putF X235 hx hZ hown (host := "") (Or.inl (hw _ (List.mem_of_getElem? (i := 160) rfl))) Via.refl hh235 f21 f19 (Or.inr ⟨(hw _ (List.mem_of_getElem? (i := 161) rfl)), rfl, hnm⟩) (hw _ (List.mem_of_getElem? (i := 132) rfl)) (ty := .long) (by decide) rfl rfl (g := (mkF m 183 #[rv r0, rv r1, rv b16, .val (.long (0 : Int64)), .second, .val (.long (own_bit (ch - (64 : Int32)))), .second, iv (1 : Int32), iv ch, .unset] [(.long (0 : Int64)), (.ref r0)])) rfl rfl (hb hby d28_183)
        have Fw237 : Fld Z h237 r0 "com/example/subject/subject/model/Wildcards$Places" "heldLow" "J" (.long (0 : Int64)) := f21.same W237
        have K237 : Keep h0 h237 [r0] := K16.wr W237 (Or.inl (List.mem_of_getElem? (i := 0) rfl))
        have N237 := Fr.snoc X237 N235 g_r0
        have pre238 : ∀ t, Steps p.tables e below (T237.setTop (mkF m 189 #[rv r0, rv r1, rv b16, .val (.long (0 : Int64)), .second, .val (.long (own_bit (ch - (64 : Int32)))), .second, iv (1 : Int32), iv ch, .unset] [(.long (own_bit (ch - (64 : Int32)))), (.ref r0)])) t → Steps p.tables e below (s₁.setTop (entryFrame m #[(.ref r0), (.ref r1)] 10)) t := by
          intro t kt
          refine pre236 _ ?_
          show Steps p.tables e below (T235.setTop (mkF m 183 #[rv r0, rv r1, rv b16, .val (.long (0 : Int64)), .second, .val (.long (own_bit (ch - (64 : Int32)))), .second, iv (1 : Int32), iv ch, .unset] [(.long (0 : Int64)), (.ref r0)])) _
          refine st237 _ ?_
          show Steps p.tables e below (T237.setTop (mkF m 186 #[rv r0, rv r1, rv b16, .val (.long (0 : Int64)), .second, .val (.long (own_bit (ch - (64 : Int32)))), .second, iv (1 : Int32), iv ch, .unset] [])) _
          refine XS.aloadN X237.here hx rfl (hb hby d28_186) rfl rfl ?_
          refine XS.lload X237.here hx rfl (hb hby d28_187) rfl ?_
          exact kt
        obtain ⟨T239, h239, X239, e239, W239, st239⟩ := putF X237 hx hZ hown (host := "") (Or.inl (hw _ (List.mem_of_getElem? (i := 162) rfl))) Via.refl e237 (f22.other W237 (Or.inr (slot_ne (Or.inr (hw _ (List.mem_of_getElem? (i := 163) rfl))) (Or.inr (hw _ (List.mem_of_getElem? (i := 161) rfl))) (by decide) (t := .long) (t' := .long) (by decide) (by decide)))) (f19.wr W237) (Or.inr ⟨(hw _ (List.mem_of_getElem? (i := 163) rfl)), rfl, hnm⟩) (hw _ (List.mem_of_getElem? (i := 132) rfl)) (ty := .long) (by decide) rfl rfl (g := (mkF m 189 #[rv r0, rv r1, rv b16, .val (.long (0 : Int64)), .second, .val (.long (own_bit (ch - (64 : Int32)))), .second, iv (1 : Int32), iv ch, .unset] [(.long (own_bit (ch - (64 : Int32)))), (.ref r0)])) rfl rfl (hb hby d28_189)
        have Fw239 : Fld Z h239 r0 "com/example/subject/subject/model/Wildcards$Places" "heldHigh" "J" (.long (own_bit (ch - (64 : Int32)))) := (f22.other W237 (Or.inr (slot_ne (Or.inr (hw _ (List.mem_of_getElem? (i := 163) rfl))) (Or.inr (hw _ (List.mem_of_getElem? (i := 161) rfl))) (by decide) (t := .long) (t' := .long) (by decide) (by decide)))).same W239
        have K239 : Keep h0 h239 [r0] := K237.wr W239 (Or.inl (List.mem_of_getElem? (i := 0) rfl))
        have N239 := Fr.snoc X239 N237 g_r0
        have pre240 : ∀ t, Steps p.tables e below (T239.setTop (mkF m 194 #[rv r0, rv r1, rv b16, .val (.long (0 : Int64)), .second, .val (.long (own_bit (ch - (64 : Int32)))), .second, iv (1 : Int32), iv ch, .unset] [(.long (0 : Int64)), (.int (1 : Int32))])) t → Steps p.tables e below (s₁.setTop (entryFrame m #[(.ref r0), (.ref r1)] 10)) t := by
          intro t kt
          refine pre238 _ ?_
          show Steps p.tables e below (T237.setTop (mkF m 189 #[rv r0, rv r1, rv b16, .val (.long (0 : Int64)), .second, .val (.long (own_bit (ch - (64 : Int32)))), .second, iv (1 : Int32), iv ch, .unset] [(.long (own_bit (ch - (64 : Int32)))), (.ref r0)])) _
          refine st239 _ ?_
          show Steps p.tables e below (T239.setTop (mkF m 192 #[rv r0, rv r1, rv b16, .val (.long (0 : Int64)), .second, .val (.long (own_bit (ch - (64 : Int32)))), .second, iv (1 : Int32), iv ch, .unset] [])) _
          refine XS.iconst X239.here hx rfl (hb hby d28_192) ?_
          refine XS.lloadN X239.here hx rfl (hb hby d28_193) rfl ?_
          exact kt
        have f241 := (((Fw12.ext E16).other W237 (Or.inr (slot_ne (Or.inr (hw _ (List.mem_of_getElem? (i := 143) rfl))) (Or.inr (hw _ (List.mem_of_getElem? (i := 161) rfl))) (by decide) (t := (.array .long)) (t' := .long) (by decide) (by decide)))).other W239 (Or.inr (slot_ne (Or.inr (hw _ (List.mem_of_getElem? (i := 143) rfl))) (Or.inr (hw _ (List.mem_of_getElem? (i := 163) rfl))) (by decide) (t := (.array .long)) (t' := .long) (by decide) (by decide))))
        have f242 := ((((V_b10.other W12 (Exa.ne ((((Ex10.wr W12).ext E16).wr W237).wr W239) ((f19.wr W237).wr W239) (by decide))).ext E16).other W237 (Exa.ne ((((Ex10.wr W12).ext E16).wr W237).wr W239) ((f19.wr W237).wr W239) (by decide))).other W239 (Exa.ne ((((Ex10.wr W12).ext E16).wr W237).wr W239) ((f19.wr W237).wr W239) (by decide)))
        have f243 := ((((Ex10.wr W12).ext E16).wr W237).wr W239)
        obtain ⟨_, _, ⟨T244, L244, k244, n244⟩, -, X244, ⟨Lc244, hQ244, l244, y244, z244⟩, st244⟩ := Jvm.LawKit.callS X239 hx (y := (⟨"java/lang/Long", "bitCount", "(J)I"⟩ : MethodName)) hown (mvT hZ (hw _ (List.mem_of_getElem? (i := 164) rfl))) (mvT hZ (hw _ (List.mem_of_getElem? (i := 165) rfl))) (mvT hZ (hw _ (List.mem_of_getElem? (i := 166) rfl))) (mvT hZ (hw _ (List.mem_of_getElem? (i := 167) rfl))) (by decide) (backOf (W := 1) (rm33 l Z a0 hw [] (0 : Int64) (0 : Int32) h239 n0 (Nat.le_trans Z0 K239.1) (by decide +kernel)) hZ (hw _ (List.mem_of_getElem? (i := 167) rfl)) (hw _ (List.mem_of_getElem? (i := 166) rfl)) (by decide) (by decide)) (g := (mkF m 194 #[rv r0, rv r1, rv b16, .val (.long (0 : Int64)), .second, .val (.long (own_bit (ch - (64 : Int32)))), .second, iv (1 : Int32), iv ch, .unset] [(.long (0 : Int64)), (.int (1 : Int32))])) rfl (by rw [hml]; rfl) (argsL := [(.long (0 : Int64))]) (rest := [(.int (1 : Int32))]) (lenOf pd25 rfl) rfl (by show 2 * 0 + _ ≤ _; exact Nat.le_of_eq rfl) (hb hby d28_194) (fun _ _ => ⟨rfl, e239, (by decide : 2 + 0 ≤ _), (by decide : 2 + 0 ≤ _)⟩)
        dsimp only [Pt.U, Pt.locs, Pt.cells, Pt.slots] at X244 l244 y244 z244 st244 hQ244
        subst l244 y244 z244
        obtain ⟨rfl, N244q, hh244⟩ := hQ244
        have N244 := Fr.app N239 N244q
        have pre245 : ∀ t, Steps p.tables e below (T244.setTop (mkF m 200 #[rv r0, rv r1, rv b16, .val (.long (0 : Int64)), .second, .val (.long (own_bit (ch - (64 : Int32)))), .second, iv (1 : Int32), iv ch, .unset] [(.long (own_bit (ch - (64 : Int32)))), (.int (1 : Int32))])) t → Steps p.tables e below (s₁.setTop (entryFrame m #[(.ref r0), (.ref r1)] 10)) t := by
          intro t kt
          refine pre240 _ ?_
          show Steps p.tables e below (T239.setTop (mkF m 194 #[rv r0, rv r1, rv b16, .val (.long (0 : Int64)), .second, .val (.long (own_bit (ch - (64 : Int32)))), .second, iv (1 : Int32), iv ch, .unset] [(.long (0 : Int64)), (.int (1 : Int32))])) _
          refine st244 _ ?_
          show Steps p.tables e below (T244.setTop (mkF m 197 #[rv r0, rv r1, rv b16, .val (.long (0 : Int64)), .second, .val (.long (own_bit (ch - (64 : Int32)))), .second, iv (1 : Int32), iv ch, .unset] [(.int (0 : Int32)), (.int (1 : Int32))])) _
          refine XS.iadd X244.here hx rfl (hb hby d28_197) rfl ?_
          show Steps p.tables e below (T244.setTop (mkF m 198 #[rv r0, rv r1, rv b16, .val (.long (0 : Int64)), .second, .val (.long (own_bit (ch - (64 : Int32)))), .second, iv (1 : Int32), iv ch, .unset] [(.int ((1 : Int32) + (0 : Int32)))])) _
          rw [show ((1 : Int32) + (0 : Int32)) = (1 : Int32) from (by decide)]
          show Steps p.tables e below (T244.setTop (mkF m 198 #[rv r0, rv r1, rv b16, .val (.long (0 : Int64)), .second, .val (.long (own_bit (ch - (64 : Int32)))), .second, iv (1 : Int32), iv ch, .unset] [(.int (1 : Int32))])) _
          refine XS.lload X244.here hx rfl (hb hby d28_198) rfl ?_
          exact kt
        obtain ⟨_, _, ⟨T246, L246, k246, n246⟩, -, X246, ⟨Lc246, hQ246, l246, y246, z246⟩, st246⟩ := Jvm.LawKit.callS X244 hx (y := (⟨"java/lang/Long", "bitCount", "(J)I"⟩ : MethodName)) hown (mvT hZ (hw _ (List.mem_of_getElem? (i := 164) rfl))) (mvT hZ (hw _ (List.mem_of_getElem? (i := 165) rfl))) (mvT hZ (hw _ (List.mem_of_getElem? (i := 166) rfl))) (mvT hZ (hw _ (List.mem_of_getElem? (i := 167) rfl))) (by decide) (backOf (W := 1) (rm33 l Z a0 hw [] (own_bit (ch - (64 : Int32))) (1 : Int32) h239 n0 (Nat.le_trans Z0 K239.1) (own_all (P := fun ch => ¬ (ch < (64 : Int32)) → own_bc (own_bit (ch - (64 : Int32))) = (1 : Int32)) (by decide +kernel) ch hok_ch hc125)) hZ (hw _ (List.mem_of_getElem? (i := 167) rfl)) (hw _ (List.mem_of_getElem? (i := 166) rfl)) (by decide) (by decide)) (g := (mkF m 200 #[rv r0, rv r1, rv b16, .val (.long (0 : Int64)), .second, .val (.long (own_bit (ch - (64 : Int32)))), .second, iv (1 : Int32), iv ch, .unset] [(.long (own_bit (ch - (64 : Int32)))), (.int (1 : Int32))])) rfl (by rw [hml]; rfl) (argsL := [(.long (own_bit (ch - (64 : Int32))))]) (rest := [(.int (1 : Int32))]) (lenOf pd25 rfl) rfl (by show 2 * 0 + _ ≤ _; exact Nat.le_of_eq rfl) (hb hby d28_200) (fun _ _ => ⟨rfl, hh244, (by decide : 2 + 0 ≤ _), (by decide : 2 + 0 ≤ _)⟩)
        dsimp only [Pt.U, Pt.locs, Pt.cells, Pt.slots] at X246 l246 y246 z246 st246 hQ246
        subst l246 y246 z246
        obtain ⟨rfl, N246q, hh246⟩ := hQ246
        have N246 := Fr.app N244 N246q
        have pre247 : ∀ t, Steps p.tables e below (T246.setTop (mkF m 210 #[rv r0, rv r1, rv b16, .val (.long (0 : Int64)), .second, .val (.long (own_bit (ch - (64 : Int32)))), .second, iv (2 : Int32), iv ch, .unset] [(.ref r0), (.int (2 : Int32)), (.ref r0)])) t → Steps p.tables e below (s₁.setTop (entryFrame m #[(.ref r0), (.ref r1)] 10)) t := by
          intro t kt
          refine pre245 _ ?_
          show Steps p.tables e below (T244.setTop (mkF m 200 #[rv r0, rv r1, rv b16, .val (.long (0 : Int64)), .second, .val (.long (own_bit (ch - (64 : Int32)))), .second, iv (1 : Int32), iv ch, .unset] [(.long (own_bit (ch - (64 : Int32)))), (.int (1 : Int32))])) _
          refine st246 _ ?_
          show Steps p.tables e below (T246.setTop (mkF m 203 #[rv r0, rv r1, rv b16, .val (.long (0 : Int64)), .second, .val (.long (own_bit (ch - (64 : Int32)))), .second, iv (1 : Int32), iv ch, .unset] [(.int (1 : Int32)), (.int (1 : Int32))])) _
          refine XS.iadd X246.here hx rfl (hb hby d28_203) rfl ?_
          show Steps p.tables e below (T246.setTop (mkF m 204 #[rv r0, rv r1, rv b16, .val (.long (0 : Int64)), .second, .val (.long (own_bit (ch - (64 : Int32)))), .second, iv (1 : Int32), iv ch, .unset] [(.int ((1 : Int32) + (1 : Int32)))])) _
          rw [show ((1 : Int32) + (1 : Int32)) = (2 : Int32) from (by decide)]
          show Steps p.tables e below (T246.setTop (mkF m 204 #[rv r0, rv r1, rv b16, .val (.long (0 : Int64)), .second, .val (.long (own_bit (ch - (64 : Int32)))), .second, iv (1 : Int32), iv ch, .unset] [(.int (2 : Int32))])) _
          refine XS.istore X246.here hx rfl (hb hby d28_204) rfl (l' := #[rv r0, rv r1, rv b16, .val (.long (0 : Int64)), .second, .val (.long (own_bit (ch - (64 : Int32)))), .second, iv (2 : Int32), iv ch, .unset]) rfl ?_
          refine XS.aloadN X246.here hx rfl (hb hby d28_206) rfl rfl ?_
          refine XS.iload X246.here hx rfl (hb hby d28_207) rfl ?_
          refine XS.aloadN X246.here hx rfl (hb hby d28_209) rfl rfl ?_
          exact kt
        obtain ⟨T248, X248, e248, st248⟩ := getF X246 hx hZ hown (host := "") (Or.inl (hw _ (List.mem_of_getElem? (i := 139) rfl))) Via.refl hh246 ((f20.other W237 (Or.inr (slot_ne (Or.inr (hw _ (List.mem_of_getElem? (i := 140) rfl))) (Or.inr (hw _ (List.mem_of_getElem? (i := 161) rfl))) (by decide) (t := .int) (t' := .long) (by decide) (by decide)))).other W239 (Or.inr (slot_ne (Or.inr (hw _ (List.mem_of_getElem? (i := 140) rfl))) (Or.inr (hw _ (List.mem_of_getElem? (i := 163) rfl))) (by decide) (t := .int) (t' := .long) (by decide) (by decide)))) (g := (mkF m 210 #[rv r0, rv r1, rv b16, .val (.long (0 : Int64)), .second, .val (.long (own_bit (ch - (64 : Int32)))), .second, iv (2 : Int32), iv ch, .unset] [(.ref r0), (.int (2 : Int32)), (.ref r0)])) rfl rfl (hb hby d28_210)
        have pre249 : ∀ t, Steps p.tables e below (T248.setTop (mkF m 214 #[rv r0, rv r1, rv b16, .val (.long (0 : Int64)), .second, .val (.long (own_bit (ch - (64 : Int32)))), .second, iv (2 : Int32), iv ch, .unset] [(.int (2 : Int32)), (.ref r0)])) t → Steps p.tables e below (s₁.setTop (entryFrame m #[(.ref r0), (.ref r1)] 10)) t := by
          intro t kt
          refine pre247 _ ?_
          show Steps p.tables e below (T246.setTop (mkF m 210 #[rv r0, rv r1, rv b16, .val (.long (0 : Int64)), .second, .val (.long (own_bit (ch - (64 : Int32)))), .second, iv (2 : Int32), iv ch, .unset] [(.ref r0), (.int (2 : Int32)), (.ref r0)])) _
          refine st248 _ ?_
          show Steps p.tables e below (T248.setTop (mkF m 213 #[rv r0, rv r1, rv b16, .val (.long (0 : Int64)), .second, .val (.long (own_bit (ch - (64 : Int32)))), .second, iv (2 : Int32), iv ch, .unset] [(.int (1 : Int32)), (.int (2 : Int32)), (.ref r0)])) _
          refine XS.imul X248.here hx rfl (hb hby d28_213) rfl ?_
          show Steps p.tables e below (T248.setTop (mkF m 214 #[rv r0, rv r1, rv b16, .val (.long (0 : Int64)), .second, .val (.long (own_bit (ch - (64 : Int32)))), .second, iv (2 : Int32), iv ch, .unset] [(.int ((2 : Int32) * (1 : Int32))), (.ref r0)])) _
          rw [show ((2 : Int32) * (1 : Int32)) = (2 : Int32) from (by decide)]
          exact kt
        obtain ⟨T250, h250, k250, X250, e250, E250, A250, Ex250, st250⟩ := newPE X248 hx hZ (hw _ (List.mem_of_getElem? (i := 141) rfl)) e248 (g := (mkF m 214 #[rv r0, rv r1, rv b16, .val (.long (0 : Int64)), .second, .val (.long (own_bit (ch - (64 : Int32)))), .second, iv (2 : Int32), iv ch, .unset] [(.int (2 : Int32)), (.ref r0)])) rfl (hb hby d28_214) rfl (by decide) (cap := 2) (by decide) (by decide) (by decide) (by decide) (ad := "[J") rfl
        obtain ⟨b250, g250⟩ : ∃ z, z = h239.size := ⟨_, rfl⟩
        rw [← g250] at A250 Ex250 st250
        have g_b250 : n0 ≤ b250 := Nat.le_trans (Nat.le_trans Z0 K239.1) (Nat.le_of_eq g250.symm)
        have sz_b250 : h0.size ≤ b250 := Nat.le_trans K239.1 (Nat.le_of_eq g250.symm)
        have V_b250 : Arv Z h250 b250 k250 .long (2 : Int32) [(.long (0 : Int64)), (.long (0 : Int64))] (.long (0 : Int64)) := (Arv.new A250 (by decide)).pad (pad_rep [] (.long (0 : Int64)) 2)
        have K250 : Keep h0 h250 [r0] := K239.ext E250
        have pre251 : ∀ t, Steps p.tables e below (T250.setTop (mkF m 216 #[rv r0, rv r1, rv b16, .val (.long (0 : Int64)), .second, .val (.long (own_bit (ch - (64 : Int32)))), .second, iv (2 : Int32), iv ch, .unset] [(.ref b250), (.ref r0)])) t → Steps p.tables e below (s₁.setTop (entryFrame m #[(.ref r0), (.ref r1)] 10)) t := by
          intro t kt
          refine pre249 _ ?_
          show Steps p.tables e below (T248.setTop (mkF m 214 #[rv r0, rv r1, rv b16, .val (.long (0 : Int64)), .second, .val (.long (own_bit (ch - (64 : Int32)))), .second, iv (2 : Int32), iv ch, .unset] [(.int (2 : Int32)), (.ref r0)])) _
          refine st250 _ ?_
          exact kt
        obtain ⟨T252, h252, X252, e252, W252, st252⟩ := putF X250 hx hZ hown (host := "") (Or.inl (hw _ (List.mem_of_getElem? (i := 171) rfl))) Via.refl e250 (((f23.other W237 (Or.inr (slot_ne (Or.inr (hw _ (List.mem_of_getElem? (i := 172) rfl))) (Or.inr (hw _ (List.mem_of_getElem? (i := 161) rfl))) (by decide) (t := (.array .long)) (t' := .long) (by decide) (by decide)))).other W239 (Or.inr (slot_ne (Or.inr (hw _ (List.mem_of_getElem? (i := 172) rfl))) (Or.inr (hw _ (List.mem_of_getElem? (i := 163) rfl))) (by decide) (t := (.array .long)) (t' := .long) (by decide) (by decide)))).ext E250) (((f19.wr W237).wr W239).ext E250) (Or.inr ⟨(hw _ (List.mem_of_getElem? (i := 172) rfl)), rfl, hnm⟩) (hw _ (List.mem_of_getElem? (i := 132) rfl)) (ty := (.array .long)) (by decide) rfl rfl (g := (mkF m 216 #[rv r0, rv r1, rv b16, .val (.long (0 : Int64)), .second, .val (.long (own_bit (ch - (64 : Int32)))), .second, iv (2 : Int32), iv ch, .unset] [(.ref b250), (.ref r0)])) rfl rfl (hb hby d28_216)
        have Fw252 : Fld Z h252 r0 "com/example/subject/subject/model/Wildcards$Places" "fits" "[J" (.ref b250) := (((f23.other W237 (Or.inr (slot_ne (Or.inr (hw _ (List.mem_of_getElem? (i := 172) rfl))) (Or.inr (hw _ (List.mem_of_getElem? (i := 161) rfl))) (by decide) (t := (.array .long)) (t' := .long) (by decide) (by decide)))).other W239 (Or.inr (slot_ne (Or.inr (hw _ (List.mem_of_getElem? (i := 172) rfl))) (Or.inr (hw _ (List.mem_of_getElem? (i := 163) rfl))) (by decide) (t := (.array .long)) (t' := .long) (by decide) (by decide)))).ext E250).same W252
        have K252 : Keep h0 h252 [r0] := K250.wr W252 (Or.inl (List.mem_of_getElem? (i := 0) rfl))
        have N252 := Fr.snoc X252 N246 g_r0
        have pre253 : ∀ t, Steps p.tables e below (T252.setTop (mkF m 232 #[rv r0, rv r1, rv b16, .val (.long (0 : Int64)), .second, .val (.long (own_bit (ch - (64 : Int32)))), .second, iv (2 : Int32), iv (0 : Int32), .unset] [(.ref r0), (.int (0 : Int32)), (.ref b16)])) t → Steps p.tables e below (s₁.setTop (entryFrame m #[(.ref r0), (.ref r1)] 10)) t := by
          intro t kt
          refine pre251 _ ?_
          show Steps p.tables e below (T250.setTop (mkF m 216 #[rv r0, rv r1, rv b16, .val (.long (0 : Int64)), .second, .val (.long (own_bit (ch - (64 : Int32)))), .second, iv (2 : Int32), iv ch, .unset] [(.ref b250), (.ref r0)])) _
          refine st252 _ ?_
          show Steps p.tables e below (T252.setTop (mkF m 219 #[rv r0, rv r1, rv b16, .val (.long (0 : Int64)), .second, .val (.long (own_bit (ch - (64 : Int32)))), .second, iv (2 : Int32), iv ch, .unset] [])) _
          refine XS.iconst X252.here hx rfl (hb hby d28_219) ?_
          refine XS.istore X252.here hx rfl (hb hby d28_220) rfl (l' := #[rv r0, rv r1, rv b16, .val (.long (0 : Int64)), .second, .val (.long (own_bit (ch - (64 : Int32)))), .second, iv (2 : Int32), iv (0 : Int32), .unset]) rfl ?_
          refine XS.iload X252.here hx rfl (hb hby d28_222) rfl ?_
          refine XS.iload X252.here hx rfl (hb hby d28_224) rfl ?_
          refine XS.icmpNo X252.here hx rfl (hb hby d28_226) rfl (tlt (by decide)).2.1 ?_
          refine XS.aloadN X252.here hx rfl (hb hby d28_229) rfl rfl ?_
          refine XS.iconst X252.here hx rfl (hb hby d28_230) ?_
          refine XS.aloadN X252.here hx rfl (hb hby d28_231) rfl rfl ?_
          exact kt
        obtain ⟨T254, X254, e254, st254⟩ := getF X252 hx hZ hown (host := "") (Or.inl (hw _ (List.mem_of_getElem? (i := 171) rfl))) Via.refl e252 Fw252 (g := (mkF m 232 #[rv r0, rv r1, rv b16, .val (.long (0 : Int64)), .second, .val (.long (own_bit (ch - (64 : Int32)))), .second, iv (2 : Int32), iv (0 : Int32), .unset] [(.ref r0), (.int (0 : Int32)), (.ref b16)])) rfl rfl (hb hby d28_232)
        have pre255 : ∀ t, Steps p.tables e below (T254.setTop (mkF m 238 #[rv r0, rv r1, rv b16, .val (.long (0 : Int64)), .second, .val (.long (own_bit (ch - (64 : Int32)))), .second, iv (2 : Int32), iv (0 : Int32), .unset] [(.ref r0), (.int (0 : Int32)), (.ref b250), (.int (0 : Int32)), (.ref b16)])) t → Steps p.tables e below (s₁.setTop (entryFrame m #[(.ref r0), (.ref r1)] 10)) t := by
          intro t kt
          refine pre253 _ ?_
          show Steps p.tables e below (T252.setTop (mkF m 232 #[rv r0, rv r1, rv b16, .val (.long (0 : Int64)), .second, .val (.long (own_bit (ch - (64 : Int32)))), .second, iv (2 : Int32), iv (0 : Int32), .unset] [(.ref r0), (.int (0 : Int32)), (.ref b16)])) _
          refine st254 _ ?_
          show Steps p.tables e below (T254.setTop (mkF m 235 #[rv r0, rv r1, rv b16, .val (.long (0 : Int64)), .second, .val (.long (own_bit (ch - (64 : Int32)))), .second, iv (2 : Int32), iv (0 : Int32), .unset] [(.ref b250), (.int (0 : Int32)), (.ref b16)])) _
          refine XS.iload X254.here hx rfl (hb hby d28_235) rfl ?_
          refine XS.aloadN X254.here hx rfl (hb hby d28_237) rfl rfl ?_
          exact kt
        obtain ⟨T256, X256, e256, st256⟩ := getF X254 hx hZ hown (host := "") (Or.inl (hw _ (List.mem_of_getElem? (i := 139) rfl))) Via.refl e254 ((((f20.other W237 (Or.inr (slot_ne (Or.inr (hw _ (List.mem_of_getElem? (i := 140) rfl))) (Or.inr (hw _ (List.mem_of_getElem? (i := 161) rfl))) (by decide) (t := .int) (t' := .long) (by decide) (by decide)))).other W239 (Or.inr (slot_ne (Or.inr (hw _ (List.mem_of_getElem? (i := 140) rfl))) (Or.inr (hw _ (List.mem_of_getElem? (i := 163) rfl))) (by decide) (t := .int) (t' := .long) (by decide) (by decide)))).ext E250).other W252 (Or.inr (slot_ne (Or.inr (hw _ (List.mem_of_getElem? (i := 140) rfl))) (Or.inr (hw _ (List.mem_of_getElem? (i := 172) rfl))) (by decide) (t := .int) (t' := (.array .long)) (by decide) (by decide)))) (g := (mkF m 238 #[rv r0, rv r1, rv b16, .val (.long (0 : Int64)), .second, .val (.long (own_bit (ch - (64 : Int32)))), .second, iv (2 : Int32), iv (0 : Int32), .unset] [(.ref r0), (.int (0 : Int32)), (.ref b250), (.int (0 : Int32)), (.ref b16)])) rfl rfl (hb hby d28_238)
        have pre257 : ∀ t, Steps p.tables e below (T256.setTop (mkF m 243 #[rv r0, rv r1, rv b16, .val (.long (0 : Int64)), .second, .val (.long (own_bit (ch - (64 : Int32)))), .second, iv (2 : Int32), iv (0 : Int32), .unset] [(.ref r0), (.int (0 : Int32)), (.ref b250), (.int (0 : Int32)), (.ref b16)])) t → Steps p.tables e below (s₁.setTop (entryFrame m #[(.ref r0), (.ref r1)] 10)) t := by
          intro t kt
          refine pre255 _ ?_
          show Steps p.tables e below (T254.setTop (mkF m 238 #[rv r0, rv r1, rv b16, .val (.long (0 : Int64)), .second, .val (.long (own_bit (ch - (64 : Int32)))), .second, iv (2 : Int32), iv (0 : Int32), .unset] [(.ref r0), (.int (0 : Int32)), (.ref b250), (.int (0 : Int32)), (.ref b16)])) _
          refine st256 _ ?_
          show Steps p.tables e below (T256.setTop (mkF m 241 #[rv r0, rv r1, rv b16, .val (.long (0 : Int64)), .second, .val (.long (own_bit (ch - (64 : Int32)))), .second, iv (2 : Int32), iv (0 : Int32), .unset] [(.int (1 : Int32)), (.int (0 : Int32)), (.ref b250), (.int (0 : Int32)), (.ref b16)])) _
          refine XS.imul X256.here hx rfl (hb hby d28_241) rfl ?_
          show Steps p.tables e below (T256.setTop (mkF m 242 #[rv r0, rv r1, rv b16, .val (.long (0 : Int64)), .second, .val (.long (own_bit (ch - (64 : Int32)))), .second, iv (2 : Int32), iv (0 : Int32), .unset] [(.int ((0 : Int32) * (1 : Int32))), (.ref b250), (.int (0 : Int32)), (.ref b16)])) _
          rw [show ((0 : Int32) * (1 : Int32)) = (0 : Int32) from (by decide)]
          show Steps p.tables e below (T256.setTop (mkF m 242 #[rv r0, rv r1, rv b16, .val (.long (0 : Int64)), .second, .val (.long (own_bit (ch - (64 : Int32)))), .second, iv (2 : Int32), iv (0 : Int32), .unset] [(.int (0 : Int32)), (.ref b250), (.int (0 : Int32)), (.ref b16)])) _
          refine XS.aloadN X256.here hx rfl (hb hby d28_242) rfl rfl ?_
          exact kt
        obtain ⟨T258, X258, e258, st258⟩ := getF X256 hx hZ hown (host := "") (Or.inl (hw _ (List.mem_of_getElem? (i := 139) rfl))) Via.refl e256 ((((f20.other W237 (Or.inr (slot_ne (Or.inr (hw _ (List.mem_of_getElem? (i := 140) rfl))) (Or.inr (hw _ (List.mem_of_getElem? (i := 161) rfl))) (by decide) (t := .int) (t' := .long) (by decide) (by decide)))).other W239 (Or.inr (slot_ne (Or.inr (hw _ (List.mem_of_getElem? (i := 140) rfl))) (Or.inr (hw _ (List.mem_of_getElem? (i := 163) rfl))) (by decide) (t := .int) (t' := .long) (by decide) (by decide)))).ext E250).other W252 (Or.inr (slot_ne (Or.inr (hw _ (List.mem_of_getElem? (i := 140) rfl))) (Or.inr (hw _ (List.mem_of_getElem? (i := 172) rfl))) (by decide) (t := .int) (t' := (.array .long)) (by decide) (by decide)))) (g := (mkF m 243 #[rv r0, rv r1, rv b16, .val (.long (0 : Int64)), .second, .val (.long (own_bit (ch - (64 : Int32)))), .second, iv (2 : Int32), iv (0 : Int32), .unset] [(.ref r0), (.int (0 : Int32)), (.ref b250), (.int (0 : Int32)), (.ref b16)])) rfl rfl (hb hby d28_243)
        have pre259 : ∀ t, Steps p.tables e below (T258.setTop (mkF m 246 #[rv r0, rv r1, rv b16, .val (.long (0 : Int64)), .second, .val (.long (own_bit (ch - (64 : Int32)))), .second, iv (2 : Int32), iv (0 : Int32), .unset] [(.int (1 : Int32)), (.int (0 : Int32)), (.ref b250), (.int (0 : Int32)), (.ref b16)])) t → Steps p.tables e below (s₁.setTop (entryFrame m #[(.ref r0), (.ref r1)] 10)) t := by
          intro t kt
          refine pre257 _ ?_
          show Steps p.tables e below (T256.setTop (mkF m 243 #[rv r0, rv r1, rv b16, .val (.long (0 : Int64)), .second, .val (.long (own_bit (ch - (64 : Int32)))), .second, iv (2 : Int32), iv (0 : Int32), .unset] [(.ref r0), (.int (0 : Int32)), (.ref b250), (.int (0 : Int32)), (.ref b16)])) _
          refine st258 _ ?_
          exact kt
        have f260 := ((((f18.other W237 (Ne.symm (Exa.neArv f19 f18 (hw _ (List.mem_of_getElem? (i := 132) rfl))))).other W239 (Ne.symm (Exa.neArv f19 f18 (hw _ (List.mem_of_getElem? (i := 132) rfl))))).ext E250).other W252 (Ne.symm (Exa.neArv f19 f18 (hw _ (List.mem_of_getElem? (i := 132) rfl)))))
        have f261 := ((((f19.wr W237).wr W239).ext E250).wr W252)
        have f262 := ((((f20.other W237 (Or.inr (slot_ne (Or.inr (hw _ (List.mem_of_getElem? (i := 140) rfl))) (Or.inr (hw _ (List.mem_of_getElem? (i := 161) rfl))) (by decide) (t := .int) (t' := .long) (by decide) (by decide)))).other W239 (Or.inr (slot_ne (Or.inr (hw _ (List.mem_of_getElem? (i := 140) rfl))) (Or.inr (hw _ (List.mem_of_getElem? (i := 163) rfl))) (by decide) (t := .int) (t' := .long) (by decide) (by decide)))).ext E250).other W252 (Or.inr (slot_ne (Or.inr (hw _ (List.mem_of_getElem? (i := 140) rfl))) (Or.inr (hw _ (List.mem_of_getElem? (i := 172) rfl))) (by decide) (t := .int) (t' := (.array .long)) (by decide) (by decide))))
        have f263 := (((Fw237.other W239 (Or.inr (slot_ne (Or.inr (hw _ (List.mem_of_getElem? (i := 161) rfl))) (Or.inr (hw _ (List.mem_of_getElem? (i := 163) rfl))) (by decide) (t := .long) (t' := .long) (by decide) (by decide)))).ext E250).other W252 (Or.inr (slot_ne (Or.inr (hw _ (List.mem_of_getElem? (i := 161) rfl))) (Or.inr (hw _ (List.mem_of_getElem? (i := 172) rfl))) (by decide) (t := .long) (t' := (.array .long)) (by decide) (by decide))))
        have f264 := ((((f24.wr W237).wr W239).ext E250).wr W252)
        have f265 := ((((f25.other W237 (Or.inl (Exa.ne f264 f261 (by decide)))).other W239 (Or.inl (Exa.ne f264 f261 (by decide)))).ext E250).other W252 (Or.inl (Exa.ne f264 f261 (by decide))))
        have f266 := ((((f26.other W237 (Or.inl (Exa.ne f264 f261 (by decide)))).other W239 (Or.inl (Exa.ne f264 f261 (by decide)))).ext E250).other W252 (Or.inl (Exa.ne f264 f261 (by decide))))
        have f267 := ((((V_b16.other W237 (Exa.ne ((((Ex16.wr W237).wr W239).ext E250).wr W252) f261 (by decide))).other W239 (Exa.ne ((((Ex16.wr W237).wr W239).ext E250).wr W252) f261 (by decide))).ext E250).other W252 (Exa.ne ((((Ex16.wr W237).wr W239).ext E250).wr W252) f261 (by decide)))
        have f268 := ((((Ex16.wr W237).wr W239).ext E250).wr W252)
        obtain ⟨T269, h269, L269, X269, e269, N269, Kc269, Vc269, st269⟩ := cpA X258 hx hZ hown (hw _ (List.mem_of_getElem? (i := 173) rfl)) (hw _ (List.mem_of_getElem? (i := 176) rfl)) (hw _ (List.mem_of_getElem? (i := 174) rfl)) (hw _ (List.mem_of_getElem? (i := 175) rfl)) e258 f267 (V_b250.other W252 (Exa.ne (Ex250.wr W252) f261 (by decide))) (Or.inl ⟨rfl, rfl⟩) (by decide) (by decide) (by decide) (by decide) (by decide) rfl (by decide) N252 g_b250 (g := (mkF m 246 #[rv r0, rv r1, rv b16, .val (.long (0 : Int64)), .second, .val (.long (own_bit (ch - (64 : Int32)))), .second, iv (2 : Int32), iv (0 : Int32), .unset] [(.int (1 : Int32)), (.int (0 : Int32)), (.ref b250), (.int (0 : Int32)), (.ref b16)])) rfl (by rw [hml]; rfl) rfl (hb hby d28_246) (by decide) (W := 0) (by show 2 * 0 + _ ≤ _; exact Nat.le_of_eq rfl) (by decide)
        have K269 : Keep h0 h269 [r0] := K252.trans Kc269 (allS (Or.inr sz_b250) all0)
        have V269 : Arv Z h269 b250 k250 .long (2 : Int32) [(.long (0 : Int64)), (.long (0 : Int64))] (.long (0 : Int64)) := Vc269
        have pre270 : ∀ t, Steps p.tables e below (T269.setTop (mkF m 232 #[rv r0, rv r1, rv b16, .val (.long (0 : Int64)), .second, .val (.long (own_bit (ch - (64 : Int32)))), .second, iv (2 : Int32), iv (1 : Int32), .unset] [(.ref r0), (.int (0 : Int32)), (.ref b16)])) t → Steps p.tables e below (s₁.setTop (entryFrame m #[(.ref r0), (.ref r1)] 10)) t := by
          intro t kt
          refine pre259 _ ?_
          show Steps p.tables e below (T258.setTop (mkF m 246 #[rv r0, rv r1, rv b16, .val (.long (0 : Int64)), .second, .val (.long (own_bit (ch - (64 : Int32)))), .second, iv (2 : Int32), iv (0 : Int32), .unset] [(.int (1 : Int32)), (.int (0 : Int32)), (.ref b250), (.int (0 : Int32)), (.ref b16)])) _
          refine st269 _ ?_
          show Steps p.tables e below (T269.setTop (mkF m 249 #[rv r0, rv r1, rv b16, .val (.long (0 : Int64)), .second, .val (.long (own_bit (ch - (64 : Int32)))), .second, iv (2 : Int32), iv (0 : Int32), .unset] [])) _
          refine XS.iinc X269.here hx rfl (hb hby d28_249) rfl (l' := #[rv r0, rv r1, rv b16, .val (.long (0 : Int64)), .second, .val (.long (own_bit (ch - (64 : Int32)))), .second, iv (2 : Int32), iv ((0 : Int32) + (1 : Int32)), .unset]) rfl ?_
          show Steps p.tables e below (T269.setTop (mkF m 252 #[rv r0, rv r1, rv b16, .val (.long (0 : Int64)), .second, .val (.long (own_bit (ch - (64 : Int32)))), .second, iv (2 : Int32), iv ((0 : Int32) + (1 : Int32)), .unset] [])) _
          rw [show ((0 : Int32) + (1 : Int32)) = (1 : Int32) from (by decide)]
          show Steps p.tables e below (T269.setTop (mkF m 252 #[rv r0, rv r1, rv b16, .val (.long (0 : Int64)), .second, .val (.long (own_bit (ch - (64 : Int32)))), .second, iv (2 : Int32), iv (1 : Int32), .unset] [])) _
          refine XS.goto X269.here hx rfl (pc0 := 252) (pc' := 222) rfl (hb hby d28_252) (by decide) (by decide) ?_
          refine XS.iload X269.here hx rfl (hb hby d28_222) rfl ?_
          refine XS.iload X269.here hx rfl (hb hby d28_224) rfl ?_
          refine XS.icmpNo X269.here hx rfl (hb hby d28_226) rfl (tlt (by decide)).2.1 ?_
          refine XS.aloadN X269.here hx rfl (hb hby d28_229) rfl rfl ?_
          refine XS.iconst X269.here hx rfl (hb hby d28_230) ?_
          refine XS.aloadN X269.here hx rfl (hb hby d28_231) rfl rfl ?_
          exact kt
        obtain ⟨T271, X271, e271, st271⟩ := getF X269 hx hZ hown (host := "") (Or.inl (hw _ (List.mem_of_getElem? (i := 171) rfl))) Via.refl e269 (Fw252.keep Kc269 (ninS (Exa.ne (f261.keep Kc269) ((Ex250.wr W252).keep Kc269) (by decide)) nin0)) (g := (mkF m 232 #[rv r0, rv r1, rv b16, .val (.long (0 : Int64)), .second, .val (.long (own_bit (ch - (64 : Int32)))), .second, iv (2 : Int32), iv (1 : Int32), .unset] [(.ref r0), (.int (0 : Int32)), (.ref b16)])) rfl rfl (hb hby d28_232)
        have pre272 : ∀ t, Steps p.tables e below (T271.setTop (mkF m 238 #[rv r0, rv r1, rv b16, .val (.long (0 : Int64)), .second, .val (.long (own_bit (ch - (64 : Int32)))), .second, iv (2 : Int32), iv (1 : Int32), .unset] [(.ref r0), (.int (1 : Int32)), (.ref b250), (.int (0 : Int32)), (.ref b16)])) t → Steps p.tables e below (s₁.setTop (entryFrame m #[(.ref r0), (.ref r1)] 10)) t := by
          intro t kt
          refine pre270 _ ?_
          show Steps p.tables e below (T269.setTop (mkF m 232 #[rv r0, rv r1, rv b16, .val (.long (0 : Int64)), .second, .val (.long (own_bit (ch - (64 : Int32)))), .second, iv (2 : Int32), iv (1 : Int32), .unset] [(.ref r0), (.int (0 : Int32)), (.ref b16)])) _
          refine st271 _ ?_
          show Steps p.tables e below (T271.setTop (mkF m 235 #[rv r0, rv r1, rv b16, .val (.long (0 : Int64)), .second, .val (.long (own_bit (ch - (64 : Int32)))), .second, iv (2 : Int32), iv (1 : Int32), .unset] [(.ref b250), (.int (0 : Int32)), (.ref b16)])) _
          refine XS.iload X271.here hx rfl (hb hby d28_235) rfl ?_
          refine XS.aloadN X271.here hx rfl (hb hby d28_237) rfl rfl ?_
          exact kt
        obtain ⟨T273, X273, e273, st273⟩ := getF X271 hx hZ hown (host := "") (Or.inl (hw _ (List.mem_of_getElem? (i := 139) rfl))) Via.refl e271 (f262.keep Kc269 (ninS (Exa.ne (f261.keep Kc269) ((Ex250.wr W252).keep Kc269) (by decide)) nin0)) (g := (mkF m 238 #[rv r0, rv r1, rv b16, .val (.long (0 : Int64)), .second, .val (.long (own_bit (ch - (64 : Int32)))), .second, iv (2 : Int32), iv (1 : Int32), .unset] [(.ref r0), (.int (1 : Int32)), (.ref b250), (.int (0 : Int32)), (.ref b16)])) rfl rfl (hb hby d28_238)
        have pre274 : ∀ t, Steps p.tables e below (T273.setTop (mkF m 243 #[rv r0, rv r1, rv b16, .val (.long (0 : Int64)), .second, .val (.long (own_bit (ch - (64 : Int32)))), .second, iv (2 : Int32), iv (1 : Int32), .unset] [(.ref r0), (.int (1 : Int32)), (.ref b250), (.int (0 : Int32)), (.ref b16)])) t → Steps p.tables e below (s₁.setTop (entryFrame m #[(.ref r0), (.ref r1)] 10)) t := by
          intro t kt
          refine pre272 _ ?_
          show Steps p.tables e below (T271.setTop (mkF m 238 #[rv r0, rv r1, rv b16, .val (.long (0 : Int64)), .second, .val (.long (own_bit (ch - (64 : Int32)))), .second, iv (2 : Int32), iv (1 : Int32), .unset] [(.ref r0), (.int (1 : Int32)), (.ref b250), (.int (0 : Int32)), (.ref b16)])) _
          refine st273 _ ?_
          show Steps p.tables e below (T273.setTop (mkF m 241 #[rv r0, rv r1, rv b16, .val (.long (0 : Int64)), .second, .val (.long (own_bit (ch - (64 : Int32)))), .second, iv (2 : Int32), iv (1 : Int32), .unset] [(.int (1 : Int32)), (.int (1 : Int32)), (.ref b250), (.int (0 : Int32)), (.ref b16)])) _
          refine XS.imul X273.here hx rfl (hb hby d28_241) rfl ?_
          show Steps p.tables e below (T273.setTop (mkF m 242 #[rv r0, rv r1, rv b16, .val (.long (0 : Int64)), .second, .val (.long (own_bit (ch - (64 : Int32)))), .second, iv (2 : Int32), iv (1 : Int32), .unset] [(.int ((1 : Int32) * (1 : Int32))), (.ref b250), (.int (0 : Int32)), (.ref b16)])) _
          rw [show ((1 : Int32) * (1 : Int32)) = (1 : Int32) from (by decide)]
          show Steps p.tables e below (T273.setTop (mkF m 242 #[rv r0, rv r1, rv b16, .val (.long (0 : Int64)), .second, .val (.long (own_bit (ch - (64 : Int32)))), .second, iv (2 : Int32), iv (1 : Int32), .unset] [(.int (1 : Int32)), (.ref b250), (.int (0 : Int32)), (.ref b16)])) _
          refine XS.aloadN X273.here hx rfl (hb hby d28_242) rfl rfl ?_
          exact kt
        obtain ⟨T275, X275, e275, st275⟩ := getF X273 hx hZ hown (host := "") (Or.inl (hw _ (List.mem_of_getElem? (i := 139) rfl))) Via.refl e273 (f262.keep Kc269 (ninS (Exa.ne (f261.keep Kc269) ((Ex250.wr W252).keep Kc269) (by decide)) nin0)) (g := (mkF m 243 #[rv r0, rv r1, rv b16, .val (.long (0 : Int64)), .second, .val (.long (own_bit (ch - (64 : Int32)))), .second, iv (2 : Int32), iv (1 : Int32), .unset] [(.ref r0), (.int (1 : Int32)), (.ref b250), (.int (0 : Int32)), (.ref b16)])) rfl rfl (hb hby d28_243)
        have pre276 : ∀ t, Steps p.tables e below (T275.setTop (mkF m 246 #[rv r0, rv r1, rv b16, .val (.long (0 : Int64)), .second, .val (.long (own_bit (ch - (64 : Int32)))), .second, iv (2 : Int32), iv (1 : Int32), .unset] [(.int (1 : Int32)), (.int (1 : Int32)), (.ref b250), (.int (0 : Int32)), (.ref b16)])) t → Steps p.tables e below (s₁.setTop (entryFrame m #[(.ref r0), (.ref r1)] 10)) t := by
          intro t kt
          refine pre274 _ ?_
          show Steps p.tables e below (T273.setTop (mkF m 243 #[rv r0, rv r1, rv b16, .val (.long (0 : Int64)), .second, .val (.long (own_bit (ch - (64 : Int32)))), .second, iv (2 : Int32), iv (1 : Int32), .unset] [(.ref r0), (.int (1 : Int32)), (.ref b250), (.int (0 : Int32)), (.ref b16)])) _
          refine st275 _ ?_
          exact kt
        have f277 := (((Fw239.ext E250).other W252 (Or.inr (slot_ne (Or.inr (hw _ (List.mem_of_getElem? (i := 163) rfl))) (Or.inr (hw _ (List.mem_of_getElem? (i := 172) rfl))) (by decide) (t := .long) (t' := (.array .long)) (by decide) (by decide)))).keep Kc269 (ninS (Exa.ne (f261.keep Kc269) ((Ex250.wr W252).keep Kc269) (by decide)) nin0))
        have f278 := (((f241.ext E250).other W252 (Or.inr (slot_ne (Or.inr (hw _ (List.mem_of_getElem? (i := 143) rfl))) (Or.inr (hw _ (List.mem_of_getElem? (i := 172) rfl))) (by decide) (t := (.array .long)) (t' := (.array .long)) (by decide) (by decide)))).keep Kc269 (ninS (Exa.ne (f261.keep Kc269) ((Ex250.wr W252).keep Kc269) (by decide)) nin0))
        have f279 := (((f242.ext E250).other W252 (Exa.ne (((f243.ext E250).wr W252).keep Kc269) (f261.keep Kc269) (by decide))).keep Kc269 (ninS (Nat.ne_of_lt (Nat.lt_of_lt_of_le f242.lt (Nat.le_of_eq g250.symm))) nin0))
        have f280 := (((f243.ext E250).wr W252).keep Kc269)
        obtain ⟨T281, h281, L281, X281, e281, N281, Kc281, Vc281, st281⟩ := cpA X275 hx hZ hown (hw _ (List.mem_of_getElem? (i := 173) rfl)) (hw _ (List.mem_of_getElem? (i := 176) rfl)) (hw _ (List.mem_of_getElem? (i := 174) rfl)) (hw _ (List.mem_of_getElem? (i := 175) rfl)) e275 (f267.keep Kc269 (ninS (Nat.ne_of_lt (Nat.lt_of_lt_of_le ((V_b16.other W237 (Exa.ne (f268.keep Kc269) (f261.keep Kc269) (by decide))).other W239 (Exa.ne (f268.keep Kc269) (f261.keep Kc269) (by decide))).lt (Nat.le_of_eq g250.symm))) nin0)) V269 (Or.inl ⟨rfl, rfl⟩) (by decide) (by decide) (by decide) (by decide) (by decide) rfl (by decide) N269 g_b250 (g := (mkF m 246 #[rv r0, rv r1, rv b16, .val (.long (0 : Int64)), .second, .val (.long (own_bit (ch - (64 : Int32)))), .second, iv (2 : Int32), iv (1 : Int32), .unset] [(.int (1 : Int32)), (.int (1 : Int32)), (.ref b250), (.int (0 : Int32)), (.ref b16)])) rfl (by rw [hml]; rfl) rfl (hb hby d28_246) (by decide) (W := 0) (by show 2 * 0 + _ ≤ _; exact Nat.le_of_eq rfl) (by decide)
        have K281 : Keep h0 h281 [r0] := K269.trans Kc281 (allS (Or.inr sz_b250) all0)
        have V281 : Arv Z h281 b250 k250 .long (2 : Int32) [(.long (0 : Int64)), (.long (0 : Int64))] (.long (0 : Int64)) := Vc281
        have pre282 : ∀ t, Steps p.tables e below (T281.setTop (mkF m 261 #[rv r0, rv r1, rv b16, .val (.long (0 : Int64)), .second, .val (.long (own_bit (ch - (64 : Int32)))), .second, iv (2 : Int32), iv (0 : Int32), .unset] [(.ref r1), (.int (0 : Int32))])) t → Steps p.tables e below (s₁.setTop (entryFrame m #[(.ref r0), (.ref r1)] 10)) t := by
          intro t kt
          refine pre276 _ ?_
          show Steps p.tables e below (T275.setTop (mkF m 246 #[rv r0, rv r1, rv b16, .val (.long (0 : Int64)), .second, .val (.long (own_bit (ch - (64 : Int32)))), .second, iv (2 : Int32), iv (1 : Int32), .unset] [(.int (1 : Int32)), (.int (1 : Int32)), (.ref b250), (.int (0 : Int32)), (.ref b16)])) _
          refine st281 _ ?_
          show Steps p.tables e below (T281.setTop (mkF m 249 #[rv r0, rv r1, rv b16, .val (.long (0 : Int64)), .second, .val (.long (own_bit (ch - (64 : Int32)))), .second, iv (2 : Int32), iv (1 : Int32), .unset] [])) _
          refine XS.iinc X281.here hx rfl (hb hby d28_249) rfl (l' := #[rv r0, rv r1, rv b16, .val (.long (0 : Int64)), .second, .val (.long (own_bit (ch - (64 : Int32)))), .second, iv (2 : Int32), iv ((1 : Int32) + (1 : Int32)), .unset]) rfl ?_
          show Steps p.tables e below (T281.setTop (mkF m 252 #[rv r0, rv r1, rv b16, .val (.long (0 : Int64)), .second, .val (.long (own_bit (ch - (64 : Int32)))), .second, iv (2 : Int32), iv ((1 : Int32) + (1 : Int32)), .unset] [])) _
          rw [show ((1 : Int32) + (1 : Int32)) = (2 : Int32) from (by decide)]
          show Steps p.tables e below (T281.setTop (mkF m 252 #[rv r0, rv r1, rv b16, .val (.long (0 : Int64)), .second, .val (.long (own_bit (ch - (64 : Int32)))), .second, iv (2 : Int32), iv (2 : Int32), .unset] [])) _
          refine XS.goto X281.here hx rfl (pc0 := 252) (pc' := 222) rfl (hb hby d28_252) (by decide) (by decide) ?_
          refine XS.iload X281.here hx rfl (hb hby d28_222) rfl ?_
          refine XS.iload X281.here hx rfl (hb hby d28_224) rfl ?_
          refine XS.icmpYes X281.here hx rfl (pc0 := 226) (pc' := 255) rfl (hb hby d28_226) rfl (flt (by decide)).2.1 (by decide) (by decide) ?_
          refine XS.iconst X281.here hx rfl (hb hby d28_255) ?_
          refine XS.istore X281.here hx rfl (hb hby d28_256) rfl (l' := #[rv r0, rv r1, rv b16, .val (.long (0 : Int64)), .second, .val (.long (own_bit (ch - (64 : Int32)))), .second, iv (2 : Int32), iv (0 : Int32), .unset]) rfl ?_
          refine XS.iload X281.here hx rfl (hb hby d28_258) rfl ?_
          refine XS.aloadN X281.here hx rfl (hb hby d28_260) rfl rfl ?_
          exact kt
        have f283 := (((Ex250.wr W252).keep Kc269).keep Kc281)
        obtain ⟨cq284, kq284, q284a, q284b, q284c⟩ := isOf hZ e281 ((f264.keep Kc269).keep Kc281)
        obtain ⟨_, _, ⟨T284, L284, k284, n284⟩, -, X284, ⟨Lc284, hQ284, l284, y284, z284⟩, st284⟩ := X281.virtualBack hx (y := (⟨"java/lang/String", "length", "()I"⟩ : MethodName)) (z := (⟨"java/lang/String", "length", "()I"⟩ : MethodName)) hown (mvT hZ (hw _ (List.mem_of_getElem? (i := 138) rfl))) (mvT hZ (hw _ (List.mem_of_getElem? (i := 94) rfl))) (notFace_of_selects (args := #[]) (mvT hZ (hw _ (List.mem_of_getElem? (i := 96) rfl)))) (mvT hZ (hw _ (List.mem_of_getElem? (i := 96) rfl))) (mvT hZ (hw _ (List.mem_of_getElem? (i := 95) rfl))) (by decide) (backOf (W := 1) (rm19 l Z a0 hw [] r1 va kc ch cs h281 n0 (Nat.le_trans Z0 K281.1) ((f265.keep Kc269 (ninS (Exa.ne ((f264.keep Kc269).keep Kc281) f283 (by decide)) nin0)).keep Kc281 (ninS (Exa.ne ((f264.keep Kc269).keep Kc281) f283 (by decide)) nin0)) ((f266.keep Kc269 (ninS (Exa.ne ((f264.keep Kc269).keep Kc281) f283 (by decide)) nin0)).keep Kc281 (ninS (Exa.ne ((f264.keep Kc269).keep Kc281) f283 (by decide)) nin0)) ((f264.keep Kc269).keep Kc281) ((f260.keep Kc269 (ninS (Nat.ne_of_lt (Nat.lt_of_lt_of_le ((((((V_va.other W6 (Ne.symm (Exa.neArv f261 f260 (hw _ (List.mem_of_getElem? (i := 132) rfl))))).ext E10).other W12 (Ne.symm (Exa.neArv f261 f260 (hw _ (List.mem_of_getElem? (i := 132) rfl))))).ext E16).other W237 (Ne.symm (Exa.neArv f261 f260 (hw _ (List.mem_of_getElem? (i := 132) rfl))))).other W239 (Ne.symm (Exa.neArv f261 f260 (hw _ (List.mem_of_getElem? (i := 132) rfl))))).lt (Nat.le_of_eq g250.symm))) nin0)).keep Kc281 (ninS (Nat.ne_of_lt (Nat.lt_of_lt_of_le ((((((V_va.other W6 (Ne.symm (Exa.neArv f261 f260 (hw _ (List.mem_of_getElem? (i := 132) rfl))))).ext E10).other W12 (Ne.symm (Exa.neArv f261 f260 (hw _ (List.mem_of_getElem? (i := 132) rfl))))).ext E16).other W237 (Ne.symm (Exa.neArv f261 f260 (hw _ (List.mem_of_getElem? (i := 132) rfl))))).other W239 (Ne.symm (Exa.neArv f261 f260 (hw _ (List.mem_of_getElem? (i := 132) rfl))))).lt (Nat.le_of_eq g250.symm))) nin0)) (O0.keep K281 (allS g_r0 all0)) S_cs hcs) hZ (hw _ (List.mem_of_getElem? (i := 97) rfl)) (hw _ (List.mem_of_getElem? (i := 7) rfl)) (by decide) (by decide)) q284a q284c (g := (mkF m 261 #[rv r0, rv r1, rv b16, .val (.long (0 : Int64)), .second, .val (.long (own_bit (ch - (64 : Int32)))), .second, iv (2 : Int32), iv (0 : Int32), .unset] [(.ref r1), (.int (0 : Int32))])) rfl (by rw [hml]; rfl) (Steps.refl _) (argsL := []) (rest := [(.int (0 : Int32))]) (lenOf pd21 rfl) rfl (by show 2 * 0 + _ ≤ _; exact Nat.le_of_eq rfl) (hb hby d28_261) (fun _ _ => ⟨rfl, e281, (by decide : 3 + 0 ≤ _), (by decide : 4 + 0 ≤ _)⟩)
        dsimp only [Pt.U, Pt.locs, Pt.cells, Pt.slots] at X284 l284 y284 z284 st284 hQ284
        subst l284 y284 z284
        obtain ⟨rfl, N284q, hh284⟩ := hQ284
        have N284 := Fr.app N281 N284q
        have pre285 : ∀ t, Steps p.tables e below (T284.setTop (mkF m 270 #[rv r0, rv r1, rv b16, .val (.long (0 : Int64)), .second, .val (.long (own_bit (ch - (64 : Int32)))), .second, iv (2 : Int32), iv (0 : Int32), .unset] [(.int (0 : Int32)), (.ref r1)])) t → Steps p.tables e below (s₁.setTop (entryFrame m #[(.ref r0), (.ref r1)] 10)) t := by
          intro t kt
          refine pre282 _ ?_
          show Steps p.tables e below (T281.setTop (mkF m 261 #[rv r0, rv r1, rv b16, .val (.long (0 : Int64)), .second, .val (.long (own_bit (ch - (64 : Int32)))), .second, iv (2 : Int32), iv (0 : Int32), .unset] [(.ref r1), (.int (0 : Int32))])) _
          refine st284.trans ?_
          show Steps p.tables e below (T284.setTop (mkF m 264 #[rv r0, rv r1, rv b16, .val (.long (0 : Int64)), .second, .val (.long (own_bit (ch - (64 : Int32)))), .second, iv (2 : Int32), iv (0 : Int32), .unset] [(.int (1 : Int32)), (.int (0 : Int32))])) _
          refine XS.icmpNo X284.here hx rfl (hb hby d28_264) rfl (tlt (by decide)).2.1 ?_
          refine XS.aloadN X284.here hx rfl (hb hby d28_267) rfl rfl ?_
          refine XS.iload X284.here hx rfl (hb hby d28_268) rfl ?_
          exact kt
        obtain ⟨cq286, kq286, q286a, q286b, q286c⟩ := isOf hZ hh284 ((f264.keep Kc269).keep Kc281)
        obtain ⟨_, _, ⟨T286, L286, k286, n286⟩, -, X286, ⟨Lc286, hQ286, l286, y286, z286⟩, st286⟩ := X284.virtualBack hx (y := (⟨"java/lang/String", "charAt", "(I)C"⟩ : MethodName)) (z := (⟨"java/lang/String", "charAt", "(I)C"⟩ : MethodName)) hown (mvT hZ (hw _ (List.mem_of_getElem? (i := 144) rfl))) (mvT hZ (hw _ (List.mem_of_getElem? (i := 145) rfl))) (notFace_of_selects (args := #[]) (mvT hZ (hw _ (List.mem_of_getElem? (i := 147) rfl)))) (mvT hZ (hw _ (List.mem_of_getElem? (i := 147) rfl))) (mvT hZ (hw _ (List.mem_of_getElem? (i := 146) rfl))) (by decide) (backOf (W := 0) (rm29 l Z a0 hw [] r1 va kc ch cs fm h281 n0 (Nat.le_trans Z0 K281.1) ((f265.keep Kc269 (ninS (Exa.ne ((f264.keep Kc269).keep Kc281) f283 (by decide)) nin0)).keep Kc281 (ninS (Exa.ne ((f264.keep Kc269).keep Kc281) f283 (by decide)) nin0)) ((f266.keep Kc269 (ninS (Exa.ne ((f264.keep Kc269).keep Kc281) f283 (by decide)) nin0)).keep Kc281 (ninS (Exa.ne ((f264.keep Kc269).keep Kc281) f283 (by decide)) nin0)) ((f264.keep Kc269).keep Kc281) ((f260.keep Kc269 (ninS (Nat.ne_of_lt (Nat.lt_of_lt_of_le ((((((V_va.other W6 (Ne.symm (Exa.neArv f261 f260 (hw _ (List.mem_of_getElem? (i := 132) rfl))))).ext E10).other W12 (Ne.symm (Exa.neArv f261 f260 (hw _ (List.mem_of_getElem? (i := 132) rfl))))).ext E16).other W237 (Ne.symm (Exa.neArv f261 f260 (hw _ (List.mem_of_getElem? (i := 132) rfl))))).other W239 (Ne.symm (Exa.neArv f261 f260 (hw _ (List.mem_of_getElem? (i := 132) rfl))))).lt (Nat.le_of_eq g250.symm))) nin0)).keep Kc281 (ninS (Nat.ne_of_lt (Nat.lt_of_lt_of_le ((((((V_va.other W6 (Ne.symm (Exa.neArv f261 f260 (hw _ (List.mem_of_getElem? (i := 132) rfl))))).ext E10).other W12 (Ne.symm (Exa.neArv f261 f260 (hw _ (List.mem_of_getElem? (i := 132) rfl))))).ext E16).other W237 (Ne.symm (Exa.neArv f261 f260 (hw _ (List.mem_of_getElem? (i := 132) rfl))))).other W239 (Ne.symm (Exa.neArv f261 f260 (hw _ (List.mem_of_getElem? (i := 132) rfl))))).lt (Nat.le_of_eq g250.symm))) nin0)) (O0.keep K281 (allS g_r0 all0)) S_cs hcs S_fm hr_fm hok_ch) hZ (hw _ (List.mem_of_getElem? (i := 148) rfl)) (hw _ (List.mem_of_getElem? (i := 7) rfl)) (by decide) (by decide)) q286a q286c (g := (mkF m 270 #[rv r0, rv r1, rv b16, .val (.long (0 : Int64)), .second, .val (.long (own_bit (ch - (64 : Int32)))), .second, iv (2 : Int32), iv (0 : Int32), .unset] [(.int (0 : Int32)), (.ref r1)])) rfl (by rw [hml]; rfl) (Steps.refl _) (argsL := [(.int (0 : Int32))]) (rest := []) (lenOf pd26 rfl) rfl (by show 2 * 0 + _ ≤ _; exact Nat.le_of_eq rfl) (hb hby d28_270) (fun _ _ => ⟨rfl, hh284, (by decide : 3 + 0 ≤ _), (by decide : 4 + 0 ≤ _)⟩)
        dsimp only [Pt.U, Pt.locs, Pt.cells, Pt.slots] at X286 l286 y286 z286 st286 hQ286
        subst l286 y286 z286
        obtain ⟨rfl, N286q, hh286⟩ := hQ286
        have N286 := Fr.app N284 N286q
        have pre287 : ∀ t, Steps p.tables e below (T286.setTop (mkF m 277 #[rv r0, rv r1, rv b16, .val (.long (0 : Int64)), .second, .val (.long (own_bit (ch - (64 : Int32)))), .second, iv (2 : Int32), iv (0 : Int32), iv ch] [(.int ch)])) t → Steps p.tables e below (s₁.setTop (entryFrame m #[(.ref r0), (.ref r1)] 10)) t := by
          intro t kt
          refine pre285 _ ?_
          show Steps p.tables e below (T284.setTop (mkF m 270 #[rv r0, rv r1, rv b16, .val (.long (0 : Int64)), .second, .val (.long (own_bit (ch - (64 : Int32)))), .second, iv (2 : Int32), iv (0 : Int32), .unset] [(.int (0 : Int32)), (.ref r1)])) _
          refine st286.trans ?_
          show Steps p.tables e below (T286.setTop (mkF m 273 #[rv r0, rv r1, rv b16, .val (.long (0 : Int64)), .second, .val (.long (own_bit (ch - (64 : Int32)))), .second, iv (2 : Int32), iv (0 : Int32), .unset] [(.int ch)])) _
          refine XS.istore X286.here hx rfl (hb hby d28_273) rfl (l' := #[rv r0, rv r1, rv b16, .val (.long (0 : Int64)), .second, .val (.long (own_bit (ch - (64 : Int32)))), .second, iv (2 : Int32), iv (0 : Int32), iv ch]) rfl ?_
          refine XS.iload X286.here hx rfl (hb hby d28_275) rfl ?_
          exact kt
        obtain ⟨_, _, ⟨T288, L288, k288, n288⟩, -, X288, ⟨Lc288, hQ288, l288, y288, z288⟩, st288⟩ := Jvm.LawKit.callS X286 hx (y := (⟨"com/example/subject/subject/model/Wildcards", "isWildcard", "(I)Z"⟩ : MethodName)) hown (mvT hZ (hw _ (List.mem_of_getElem? (i := 177) rfl))) (mvT hZ (hw _ (List.mem_of_getElem? (i := 2) rfl))) (mvT hZ (hw _ (List.mem_of_getElem? (i := 3) rfl))) (mvT hZ (hw _ (List.mem_of_getElem? (i := 4) rfl))) (by decide) (backOf (W := 0) (rm1 l Z a0 hw [] ch (0 : Int32) h281 n0 (Nat.le_trans Z0 K281.1) ((if_neg hc68).trans (if_neg hc98))) hZ (hw _ (List.mem_of_getElem? (i := 4) rfl)) (hw _ (List.mem_of_getElem? (i := 3) rfl)) (by decide) (by decide)) (g := (mkF m 277 #[rv r0, rv r1, rv b16, .val (.long (0 : Int64)), .second, .val (.long (own_bit (ch - (64 : Int32)))), .second, iv (2 : Int32), iv (0 : Int32), iv ch] [(.int ch)])) rfl (by rw [hml]; rfl) (argsL := [(.int ch)]) (rest := []) (lenOf pd18 rfl) rfl (by show 2 * 0 + _ ≤ _; exact Nat.le_of_eq rfl) (hb hby d28_277) (fun _ _ => ⟨rfl, hh286, (by decide : 3 + 0 ≤ _), (by decide : 4 + 0 ≤ _)⟩)
        dsimp only [Pt.U, Pt.locs, Pt.cells, Pt.slots] at X288 l288 y288 z288 st288 hQ288
        subst l288 y288 z288
        obtain ⟨rfl, N288q, hh288⟩ := hQ288
        have N288 := Fr.app N286 N288q
        have pre289 : ∀ t, Steps p.tables e below (T288.setTop (mkF m 284 #[rv r0, rv r1, rv b16, .val (.long (0 : Int64)), .second, .val (.long (own_bit (ch - (64 : Int32)))), .second, iv (2 : Int32), iv (0 : Int32), iv ch] [(.ref r0)])) t → Steps p.tables e below (s₁.setTop (entryFrame m #[(.ref r0), (.ref r1)] 10)) t := by
          intro t kt
          refine pre287 _ ?_
          show Steps p.tables e below (T286.setTop (mkF m 277 #[rv r0, rv r1, rv b16, .val (.long (0 : Int64)), .second, .val (.long (own_bit (ch - (64 : Int32)))), .second, iv (2 : Int32), iv (0 : Int32), iv ch] [(.int ch)])) _
          refine st288 _ ?_
          show Steps p.tables e below (T288.setTop (mkF m 280 #[rv r0, rv r1, rv b16, .val (.long (0 : Int64)), .second, .val (.long (own_bit (ch - (64 : Int32)))), .second, iv (2 : Int32), iv (0 : Int32), iv ch] [(.int (0 : Int32))])) _
          refine XS.ifNo X288.here hx rfl (hb hby d28_280) rfl ((if0 _ _).trans (teq (by decide)).2) ?_
          refine XS.aloadN X288.here hx rfl (hb hby d28_283) rfl rfl ?_
          exact kt
        obtain ⟨T290, X290, e290, st290⟩ := getF X288 hx hZ hown (host := "") (Or.inl (hw _ (List.mem_of_getElem? (i := 171) rfl))) Via.refl hh288 ((Fw252.keep Kc269 (ninS (Exa.ne ((f261.keep Kc269).keep Kc281) f283 (by decide)) nin0)).keep Kc281 (ninS (Exa.ne ((f261.keep Kc269).keep Kc281) f283 (by decide)) nin0)) (g := (mkF m 284 #[rv r0, rv r1, rv b16, .val (.long (0 : Int64)), .second, .val (.long (own_bit (ch - (64 : Int32)))), .second, iv (2 : Int32), iv (0 : Int32), iv ch] [(.ref r0)])) rfl rfl (hb hby d28_284)
        have pre291 : ∀ t, Steps p.tables e below (T290.setTop (mkF m 290 #[rv r0, rv r1, rv b16, .val (.long (0 : Int64)), .second, .val (.long (own_bit (ch - (64 : Int32)))), .second, iv (2 : Int32), iv (0 : Int32), iv ch] [(.int ch), (.ref r0), (.ref b250)])) t → Steps p.tables e below (s₁.setTop (entryFrame m #[(.ref r0), (.ref r1)] 10)) t := by
          intro t kt
          refine pre289 _ ?_
          show Steps p.tables e below (T288.setTop (mkF m 284 #[rv r0, rv r1, rv b16, .val (.long (0 : Int64)), .second, .val (.long (own_bit (ch - (64 : Int32)))), .second, iv (2 : Int32), iv (0 : Int32), iv ch] [(.ref r0)])) _
          refine st290 _ ?_
          show Steps p.tables e below (T290.setTop (mkF m 287 #[rv r0, rv r1, rv b16, .val (.long (0 : Int64)), .second, .val (.long (own_bit (ch - (64 : Int32)))), .second, iv (2 : Int32), iv (0 : Int32), iv ch] [(.ref b250)])) _
          refine XS.aloadN X290.here hx rfl (hb hby d28_287) rfl rfl ?_
          refine XS.iload X290.here hx rfl (hb hby d28_288) rfl ?_
          exact kt
        obtain ⟨cq292, q292, q292'⟩ := ((f261.keep Kc269).keep Kc281).cell
        obtain ⟨_, _, ⟨T292, L292, k292, n292⟩, -, X292, ⟨Lc292, hQ292, l292, y292, z292⟩, st292⟩ := X290.privateBack hx (y := (⟨"com/example/subject/subject/model/Wildcards$Places", "slot", "(C)I"⟩ : MethodName)) hown (mvT hZ (hw _ (List.mem_of_getElem? (i := 178) rfl))) (mvT hZ (hw _ (List.mem_of_getElem? (i := 179) rfl))) (own_selp (y := (⟨"com/example/subject/subject/model/Wildcards$Places", "slot", "(C)I"⟩ : MethodName)) (mvT hZ (hw _ (List.mem_of_getElem? (i := 132) rfl))) (Cond.privateMethod_at (mvP hZ (hw _ (List.mem_of_getElem? (i := 180) rfl)) (args := #[]))) (mvT hZ (hw _ (List.mem_of_getElem? (i := 179) rfl))) (by decide)) (Cond.privateMethod_at (mvP hZ (hw _ (List.mem_of_getElem? (i := 180) rfl)) (args := #[]))) (mvT hZ (hw _ (List.mem_of_getElem? (i := 181) rfl))) (by decide) (backOf (W := 1) (rm34H l Z a0 hw [] r0 ch h281 n0 (Nat.le_trans Z0 K281.1) ((f263.keep Kc269 (ninS (Exa.ne ((f261.keep Kc269).keep Kc281) f283 (by decide)) nin0)).keep Kc281 (ninS (Exa.ne ((f261.keep Kc269).keep Kc281) f283 (by decide)) nin0)) (f277.keep Kc281 (ninS (Exa.ne ((f261.keep Kc269).keep Kc281) f283 (by decide)) nin0)) ((f261.keep Kc269).keep Kc281) hok_ch hc125) hZ (hw _ (List.mem_of_getElem? (i := 181) rfl)) (hw _ (List.mem_of_getElem? (i := 133) rfl)) (by decide) (by decide)) (g := (mkF m 290 #[rv r0, rv r1, rv b16, .val (.long (0 : Int64)), .second, .val (.long (own_bit (ch - (64 : Int32)))), .second, iv (2 : Int32), iv (0 : Int32), iv ch] [(.int ch), (.ref r0), (.ref b250)])) rfl (by rw [hml]; rfl) (Steps.refl _) (a := r0) (by rw [e290]; exact q292) q292' (argsL := [(.int ch)]) (rest := [(.ref b250)]) (lenOf pd27 rfl) rfl (by show 2 * 0 + _ ≤ _; exact Nat.le_of_eq rfl) (hb hby d28_290) (fun _ _ => ⟨rfl, e290, (by decide : 3 + 0 ≤ _), (by decide : 4 + 0 ≤ _)⟩)
        dsimp only [Pt.U, Pt.locs, Pt.cells, Pt.slots] at X292 l292 y292 z292 st292 hQ292
        subst l292 y292 z292
        obtain ⟨rfl, N292q, hh292⟩ := hQ292
        have N292 := Fr.app N288 N292q
        have pre293 : ∀ t, Steps p.tables e below (T292.setTop (mkF m 294 #[rv r0, rv r1, rv b16, .val (.long (0 : Int64)), .second, .val (.long (own_bit (ch - (64 : Int32)))), .second, iv (2 : Int32), iv (0 : Int32), iv ch] [(.ref r0), (.int (1 : Int32)), (.ref b250)])) t → Steps p.tables e below (s₁.setTop (entryFrame m #[(.ref r0), (.ref r1)] 10)) t := by
          intro t kt
          refine pre291 _ ?_
          show Steps p.tables e below (T290.setTop (mkF m 290 #[rv r0, rv r1, rv b16, .val (.long (0 : Int64)), .second, .val (.long (own_bit (ch - (64 : Int32)))), .second, iv (2 : Int32), iv (0 : Int32), iv ch] [(.int ch), (.ref r0), (.ref b250)])) _
          refine st292.trans ?_
          show Steps p.tables e below (T292.setTop (mkF m 293 #[rv r0, rv r1, rv b16, .val (.long (0 : Int64)), .second, .val (.long (own_bit (ch - (64 : Int32)))), .second, iv (2 : Int32), iv (0 : Int32), iv ch] [(.int (1 : Int32)), (.ref b250)])) _
          refine XS.aloadN X292.here hx rfl (hb hby d28_293) rfl rfl ?_
          exact kt
        obtain ⟨T294, X294, e294, st294⟩ := getF X292 hx hZ hown (host := "") (Or.inl (hw _ (List.mem_of_getElem? (i := 139) rfl))) Via.refl hh292 ((f262.keep Kc269 (ninS (Exa.ne ((f261.keep Kc269).keep Kc281) f283 (by decide)) nin0)).keep Kc281 (ninS (Exa.ne ((f261.keep Kc269).keep Kc281) f283 (by decide)) nin0)) (g := (mkF m 294 #[rv r0, rv r1, rv b16, .val (.long (0 : Int64)), .second, .val (.long (own_bit (ch - (64 : Int32)))), .second, iv (2 : Int32), iv (0 : Int32), iv ch] [(.ref r0), (.int (1 : Int32)), (.ref b250)])) rfl rfl (hb hby d28_294)
        obtain ⟨cl295, Ar295, q295, S295, M295, H295, G295⟩ := id V281
        have hin295 : ¬ ((1 : Int32) < 0 ∨ cl295.slots.size ≤ ((1 : Int32)).toNatClampNeg) := inb_of S295 ⟨by decide, by decide⟩
        have hat295 : cl295.slots[((1 : Int32)).toNatClampNeg]? = some (.long (0 : Int64)) := H295.at hin295 rfl
        have pre296 : ∀ t, Steps p.tables e below (T294.setTop (mkF m 314 #[rv r0, rv r1, rv b16, .val (.long (0 : Int64)), .second, .val (.long (own_bit (ch - (64 : Int32)))), .second, iv (2 : Int32), iv (0 : Int32), iv ch] [(.long (1 : Int64)), (.int (1 : Int32)), (.ref b250)])) t → Steps p.tables e below (s₁.setTop (entryFrame m #[(.ref r0), (.ref r1)] 10)) t := by
          intro t kt
          refine pre293 _ ?_
          show Steps p.tables e below (T292.setTop (mkF m 294 #[rv r0, rv r1, rv b16, .val (.long (0 : Int64)), .second, .val (.long (own_bit (ch - (64 : Int32)))), .second, iv (2 : Int32), iv (0 : Int32), iv ch] [(.ref r0), (.int (1 : Int32)), (.ref b250)])) _
          refine st294 _ ?_
          show Steps p.tables e below (T294.setTop (mkF m 297 #[rv r0, rv r1, rv b16, .val (.long (0 : Int64)), .second, .val (.long (own_bit (ch - (64 : Int32)))), .second, iv (2 : Int32), iv (0 : Int32), iv ch] [(.int (1 : Int32)), (.int (1 : Int32)), (.ref b250)])) _
          refine XS.imul X294.here hx rfl (hb hby d28_297) rfl ?_
          show Steps p.tables e below (T294.setTop (mkF m 298 #[rv r0, rv r1, rv b16, .val (.long (0 : Int64)), .second, .val (.long (own_bit (ch - (64 : Int32)))), .second, iv (2 : Int32), iv (0 : Int32), iv ch] [(.int ((1 : Int32) * (1 : Int32))), (.ref b250)])) _
          rw [show ((1 : Int32) * (1 : Int32)) = (1 : Int32) from (by decide)]
          show Steps p.tables e below (T294.setTop (mkF m 298 #[rv r0, rv r1, rv b16, .val (.long (0 : Int64)), .second, .val (.long (own_bit (ch - (64 : Int32)))), .second, iv (2 : Int32), iv (0 : Int32), iv ch] [(.int (1 : Int32)), (.ref b250)])) _
          refine XS.iload X294.here hx rfl (hb hby d28_298) rfl ?_
          refine XS.bipush X294.here hx rfl (hb hby d28_300) ?_
          refine XS.idiv X294.here hx rfl (hb hby d28_302) rfl (by decide) ?_
          show Steps p.tables e below (T294.setTop (mkF m 303 #[rv r0, rv r1, rv b16, .val (.long (0 : Int64)), .second, .val (.long (own_bit (ch - (64 : Int32)))), .second, iv (2 : Int32), iv (0 : Int32), iv ch] [(.int ((0 : Int32) / (64 : Int32))), (.int (1 : Int32)), (.ref b250)])) _
          rw [show ((0 : Int32) / (64 : Int32)) = (0 : Int32) from (by decide)]
          show Steps p.tables e below (T294.setTop (mkF m 303 #[rv r0, rv r1, rv b16, .val (.long (0 : Int64)), .second, .val (.long (own_bit (ch - (64 : Int32)))), .second, iv (2 : Int32), iv (0 : Int32), iv ch] [(.int (0 : Int32)), (.int (1 : Int32)), (.ref b250)])) _
          refine XS.iadd X294.here hx rfl (hb hby d28_303) rfl ?_
          show Steps p.tables e below (T294.setTop (mkF m 304 #[rv r0, rv r1, rv b16, .val (.long (0 : Int64)), .second, .val (.long (own_bit (ch - (64 : Int32)))), .second, iv (2 : Int32), iv (0 : Int32), iv ch] [(.int ((1 : Int32) + (0 : Int32))), (.ref b250)])) _
          rw [show ((1 : Int32) + (0 : Int32)) = (1 : Int32) from (by decide)]
          show Steps p.tables e below (T294.setTop (mkF m 304 #[rv r0, rv r1, rv b16, .val (.long (0 : Int64)), .second, .val (.long (own_bit (ch - (64 : Int32)))), .second, iv (2 : Int32), iv (0 : Int32), iv ch] [(.int (1 : Int32)), (.ref b250)])) _
          refine XT.dup2 X294.here hx rfl (hb hby d28_304) rfl rfl rfl ?_
          show Steps p.tables e below (T294.setTop (mkF m 305 #[rv r0, rv r1, rv b16, .val (.long (0 : Int64)), .second, .val (.long (own_bit (ch - (64 : Int32)))), .second, iv (2 : Int32), iv (0 : Int32), iv ch] [(.int (1 : Int32)), (.ref b250), (.int (1 : Int32)), (.ref b250)])) _
          refine X294.laload hx (j := (1 : Int32)) (v := (.long (0 : Int64))) (by rw [e294]; exact Ar295.1) (State.isArrayOf_alike hZ.alike Ar295.2.1) Ar295.2.2 hin295 hat295 (g := (mkF m 305 #[rv r0, rv r1, rv b16, .val (.long (0 : Int64)), .second, .val (.long (own_bit (ch - (64 : Int32)))), .second, iv (2 : Int32), iv (0 : Int32), iv ch] [(.int (1 : Int32)), (.ref b250), (.int (1 : Int32)), (.ref b250)])) rfl rfl (hb hby d28_305) _ ?_
          show Steps p.tables e below (T294.setTop (mkF m 306 #[rv r0, rv r1, rv b16, .val (.long (0 : Int64)), .second, .val (.long (own_bit (ch - (64 : Int32)))), .second, iv (2 : Int32), iv (0 : Int32), iv ch] [(.long (0 : Int64)), (.int (1 : Int32)), (.ref b250)])) _
          refine XS.lconst X294.here hx rfl (hb hby d28_306) ?_
          refine XS.iload X294.here hx rfl (hb hby d28_307) rfl ?_
          refine XS.bipush X294.here hx rfl (hb hby d28_309) ?_
          refine iremM X294 hx rfl (hb hby d28_311) rfl (by decide) ?_
          show Steps p.tables e below (T294.setTop (mkF m 312 #[rv r0, rv r1, rv b16, .val (.long (0 : Int64)), .second, .val (.long (own_bit (ch - (64 : Int32)))), .second, iv (2 : Int32), iv (0 : Int32), iv ch] [(.int ((0 : Int32) % (64 : Int32))), (.long (1 : Int64)), (.long (0 : Int64)), (.int (1 : Int32)), (.ref b250)])) _
          rw [show ((0 : Int32) % (64 : Int32)) = (0 : Int32) from (by decide)]
          show Steps p.tables e below (T294.setTop (mkF m 312 #[rv r0, rv r1, rv b16, .val (.long (0 : Int64)), .second, .val (.long (own_bit (ch - (64 : Int32)))), .second, iv (2 : Int32), iv (0 : Int32), iv ch] [(.int (0 : Int32)), (.long (1 : Int64)), (.long (0 : Int64)), (.int (1 : Int32)), (.ref b250)])) _
          refine XS.lshl X294.here hx rfl (hb hby d28_312) rfl ?_
          show Steps p.tables e below (T294.setTop (mkF m 313 #[rv r0, rv r1, rv b16, .val (.long (0 : Int64)), .second, .val (.long (own_bit (ch - (64 : Int32)))), .second, iv (2 : Int32), iv (0 : Int32), iv ch] [(.long ((1 : Int64) <<< ((0 : Int32) &&& 0x3f).toInt64)), (.long (0 : Int64)), (.int (1 : Int32)), (.ref b250)])) _
          rw [show ((1 : Int64) <<< ((0 : Int32) &&& 0x3f).toInt64) = (1 : Int64) from (by decide)]
          show Steps p.tables e below (T294.setTop (mkF m 313 #[rv r0, rv r1, rv b16, .val (.long (0 : Int64)), .second, .val (.long (own_bit (ch - (64 : Int32)))), .second, iv (2 : Int32), iv (0 : Int32), iv ch] [(.long (1 : Int64)), (.long (0 : Int64)), (.int (1 : Int32)), (.ref b250)])) _
          refine XS.lor X294.here hx rfl (hb hby d28_313) rfl ?_
          show Steps p.tables e below (T294.setTop (mkF m 314 #[rv r0, rv r1, rv b16, .val (.long (0 : Int64)), .second, .val (.long (own_bit (ch - (64 : Int32)))), .second, iv (2 : Int32), iv (0 : Int32), iv ch] [(.long ((0 : Int64) ||| (1 : Int64))), (.int (1 : Int32)), (.ref b250)])) _
          rw [show ((0 : Int64) ||| (1 : Int64)) = (1 : Int64) from (by decide)]
          exact kt
        obtain ⟨cl297, Ar297, q297, S297, M297, H297, G297⟩ := id V281
        have hin297 : ¬ ((1 : Int32) < 0 ∨ cl297.slots.size ≤ ((1 : Int32)).toNatClampNeg) := inb_of S297 ⟨by decide, by decide⟩
        obtain ⟨T297, h297, X297, e297, W297, st297⟩ := stJ X294 hx hZ e294 Ar297 (j := (1 : Int32)) hin297 (g := (mkF m 314 #[rv r0, rv r1, rv b16, .val (.long (0 : Int64)), .second, .val (.long (own_bit (ch - (64 : Int32)))), .second, iv (2 : Int32), iv (0 : Int32), iv ch] [(.long (1 : Int64)), (.int (1 : Int32)), (.ref b250)])) rfl rfl (hb hby d28_314)
        have V297 : Arv Z h297 b250 k250 .long (2 : Int32) [(.long (0 : Int64)), (.long (1 : Int64))] (.long (0 : Int64)) := Arv.set Ar297 q297 S297 M297 H297 G297 rfl W297 1 rfl (Nat.le_of_ble_eq_true rfl)
        have K297 : Keep h0 h297 [r0] := K281.wr W297 (Or.inr sz_b250)
        have N297 := Fr.snoc X297 N292 g_b250
        have pre298 : ∀ t, Steps p.tables e below (T297.setTop (mkF m 261 #[rv r0, rv r1, rv b16, .val (.long (0 : Int64)), .second, .val (.long (own_bit (ch - (64 : Int32)))), .second, iv (2 : Int32), iv (1 : Int32), iv ch] [(.ref r1), (.int (1 : Int32))])) t → Steps p.tables e below (s₁.setTop (entryFrame m #[(.ref r0), (.ref r1)] 10)) t := by
          intro t kt
          refine pre296 _ ?_
          show Steps p.tables e below (T294.setTop (mkF m 314 #[rv r0, rv r1, rv b16, .val (.long (0 : Int64)), .second, .val (.long (own_bit (ch - (64 : Int32)))), .second, iv (2 : Int32), iv (0 : Int32), iv ch] [(.long (1 : Int64)), (.int (1 : Int32)), (.ref b250)])) _
          refine st297 _ ?_
          show Steps p.tables e below (T297.setTop (mkF m 315 #[rv r0, rv r1, rv b16, .val (.long (0 : Int64)), .second, .val (.long (own_bit (ch - (64 : Int32)))), .second, iv (2 : Int32), iv (0 : Int32), iv ch] [])) _
          refine XS.iinc X297.here hx rfl (hb hby d28_315) rfl (l' := #[rv r0, rv r1, rv b16, .val (.long (0 : Int64)), .second, .val (.long (own_bit (ch - (64 : Int32)))), .second, iv (2 : Int32), iv ((0 : Int32) + (1 : Int32)), iv ch]) rfl ?_
          show Steps p.tables e below (T297.setTop (mkF m 318 #[rv r0, rv r1, rv b16, .val (.long (0 : Int64)), .second, .val (.long (own_bit (ch - (64 : Int32)))), .second, iv (2 : Int32), iv ((0 : Int32) + (1 : Int32)), iv ch] [])) _
          rw [show ((0 : Int32) + (1 : Int32)) = (1 : Int32) from (by decide)]
          show Steps p.tables e below (T297.setTop (mkF m 318 #[rv r0, rv r1, rv b16, .val (.long (0 : Int64)), .second, .val (.long (own_bit (ch - (64 : Int32)))), .second, iv (2 : Int32), iv (1 : Int32), iv ch] [])) _
          refine XS.goto X297.here hx rfl (pc0 := 318) (pc' := 258) rfl (hb hby d28_318) (by decide) (by decide) ?_
          refine XS.iload X297.here hx rfl (hb hby d28_258) rfl ?_
          refine XS.aloadN X297.here hx rfl (hb hby d28_260) rfl rfl ?_
          exact kt
        have f299 := (((f260.keep Kc269 (ninS (Nat.ne_of_lt (Nat.lt_of_lt_of_le ((((((V_va.other W6 (Ne.symm (Exa.neArv f261 f260 (hw _ (List.mem_of_getElem? (i := 132) rfl))))).ext E10).other W12 (Ne.symm (Exa.neArv f261 f260 (hw _ (List.mem_of_getElem? (i := 132) rfl))))).ext E16).other W237 (Ne.symm (Exa.neArv f261 f260 (hw _ (List.mem_of_getElem? (i := 132) rfl))))).other W239 (Ne.symm (Exa.neArv f261 f260 (hw _ (List.mem_of_getElem? (i := 132) rfl))))).lt (Nat.le_of_eq g250.symm))) nin0)).keep Kc281 (ninS (Nat.ne_of_lt (Nat.lt_of_lt_of_le ((((((V_va.other W6 (Ne.symm (Exa.neArv f261 f260 (hw _ (List.mem_of_getElem? (i := 132) rfl))))).ext E10).other W12 (Ne.symm (Exa.neArv f261 f260 (hw _ (List.mem_of_getElem? (i := 132) rfl))))).ext E16).other W237 (Ne.symm (Exa.neArv f261 f260 (hw _ (List.mem_of_getElem? (i := 132) rfl))))).other W239 (Ne.symm (Exa.neArv f261 f260 (hw _ (List.mem_of_getElem? (i := 132) rfl))))).lt (Nat.le_of_eq g250.symm))) nin0)).other W297 (Nat.ne_of_lt (Nat.lt_of_lt_of_le ((((((V_va.other W6 (Ne.symm (Exa.neArv f261 f260 (hw _ (List.mem_of_getElem? (i := 132) rfl))))).ext E10).other W12 (Ne.symm (Exa.neArv f261 f260 (hw _ (List.mem_of_getElem? (i := 132) rfl))))).ext E16).other W237 (Ne.symm (Exa.neArv f261 f260 (hw _ (List.mem_of_getElem? (i := 132) rfl))))).other W239 (Ne.symm (Exa.neArv f261 f260 (hw _ (List.mem_of_getElem? (i := 132) rfl))))).lt (Nat.le_of_eq g250.symm))))
        have f300 := (((f261.keep Kc269).keep Kc281).wr W297)
        have f301 := (((f262.keep Kc269 (ninS (Exa.ne f300 (f283.wr W297) (by decide)) nin0)).keep Kc281 (ninS (Exa.ne f300 (f283.wr W297) (by decide)) nin0)).other W297 (Or.inl (Exa.ne f300 (f283.wr W297) (by decide))))
        have f302 := (((f263.keep Kc269 (ninS (Exa.ne f300 (f283.wr W297) (by decide)) nin0)).keep Kc281 (ninS (Exa.ne f300 (f283.wr W297) (by decide)) nin0)).other W297 (Or.inl (Exa.ne f300 (f283.wr W297) (by decide))))
        have f303 := (((Fw252.keep Kc269 (ninS (Exa.ne f300 (f283.wr W297) (by decide)) nin0)).keep Kc281 (ninS (Exa.ne f300 (f283.wr W297) (by decide)) nin0)).other W297 (Or.inl (Exa.ne f300 (f283.wr W297) (by decide))))
        have f304 := (((f264.keep Kc269).keep Kc281).wr W297)
        have f305 := (((f265.keep Kc269 (ninS (Exa.ne f304 (f283.wr W297) (by decide)) nin0)).keep Kc281 (ninS (Exa.ne f304 (f283.wr W297) (by decide)) nin0)).other W297 (Or.inl (Exa.ne f304 (f283.wr W297) (by decide))))
        have f306 := (((f266.keep Kc269 (ninS (Exa.ne f304 (f283.wr W297) (by decide)) nin0)).keep Kc281 (ninS (Exa.ne f304 (f283.wr W297) (by decide)) nin0)).other W297 (Or.inl (Exa.ne f304 (f283.wr W297) (by decide))))
        have f307 := (((f267.keep Kc269 (ninS (Nat.ne_of_lt (Nat.lt_of_lt_of_le ((V_b16.other W237 (Exa.ne (((f268.keep Kc269).keep Kc281).wr W297) f300 (by decide))).other W239 (Exa.ne (((f268.keep Kc269).keep Kc281).wr W297) f300 (by decide))).lt (Nat.le_of_eq g250.symm))) nin0)).keep Kc281 (ninS (Nat.ne_of_lt (Nat.lt_of_lt_of_le ((V_b16.other W237 (Exa.ne (((f268.keep Kc269).keep Kc281).wr W297) f300 (by decide))).other W239 (Exa.ne (((f268.keep Kc269).keep Kc281).wr W297) f300 (by decide))).lt (Nat.le_of_eq g250.symm))) nin0)).other W297 (Nat.ne_of_lt (Nat.lt_of_lt_of_le ((V_b16.other W237 (Exa.ne (((f268.keep Kc269).keep Kc281).wr W297) f300 (by decide))).other W239 (Exa.ne (((f268.keep Kc269).keep Kc281).wr W297) f300 (by decide))).lt (Nat.le_of_eq g250.symm))))
        have f308 := (((f268.keep Kc269).keep Kc281).wr W297)
        obtain ⟨cq309, kq309, q309a, q309b, q309c⟩ := isOf hZ e297 f304
        obtain ⟨_, _, ⟨T309, L309, k309, n309⟩, -, X309, ⟨Lc309, hQ309, l309, y309, z309⟩, st309⟩ := X297.virtualBack hx (y := (⟨"java/lang/String", "length", "()I"⟩ : MethodName)) (z := (⟨"java/lang/String", "length", "()I"⟩ : MethodName)) hown (mvT hZ (hw _ (List.mem_of_getElem? (i := 138) rfl))) (mvT hZ (hw _ (List.mem_of_getElem? (i := 94) rfl))) (notFace_of_selects (args := #[]) (mvT hZ (hw _ (List.mem_of_getElem? (i := 96) rfl)))) (mvT hZ (hw _ (List.mem_of_getElem? (i := 96) rfl))) (mvT hZ (hw _ (List.mem_of_getElem? (i := 95) rfl))) (by decide) (backOf (W := 1) (rm19 l Z a0 hw [] r1 va kc ch cs h297 n0 (Nat.le_trans Z0 K297.1) f305 f306 f304 f299 (O0.keep K297 (allS g_r0 all0)) S_cs hcs) hZ (hw _ (List.mem_of_getElem? (i := 97) rfl)) (hw _ (List.mem_of_getElem? (i := 7) rfl)) (by decide) (by decide)) q309a q309c (g := (mkF m 261 #[rv r0, rv r1, rv b16, .val (.long (0 : Int64)), .second, .val (.long (own_bit (ch - (64 : Int32)))), .second, iv (2 : Int32), iv (1 : Int32), iv ch] [(.ref r1), (.int (1 : Int32))])) rfl (by rw [hml]; rfl) (Steps.refl _) (argsL := []) (rest := [(.int (1 : Int32))]) (lenOf pd21 rfl) rfl (by show 2 * 0 + _ ≤ _; exact Nat.le_of_eq rfl) (hb hby d28_261) (fun _ _ => ⟨rfl, e297, (by decide : 3 + 0 ≤ _), (by decide : 4 + 0 ≤ _)⟩)
        dsimp only [Pt.U, Pt.locs, Pt.cells, Pt.slots] at X309 l309 y309 z309 st309 hQ309
        subst l309 y309 z309
        obtain ⟨rfl, N309q, hh309⟩ := hQ309
        have N309 := Fr.app N297 N309q
        have pre310 : ∀ t, Steps p.tables e below (T309.setTop (mkF m 321 #[rv r0, rv r1, rv b16, .val (.long (0 : Int64)), .second, .val (.long (own_bit (ch - (64 : Int32)))), .second, iv (2 : Int32), iv (1 : Int32), iv ch] [])) t → Steps p.tables e below (s₁.setTop (entryFrame m #[(.ref r0), (.ref r1)] 10)) t := by
          intro t kt
          refine pre298 _ ?_
          show Steps p.tables e below (T297.setTop (mkF m 261 #[rv r0, rv r1, rv b16, .val (.long (0 : Int64)), .second, .val (.long (own_bit (ch - (64 : Int32)))), .second, iv (2 : Int32), iv (1 : Int32), iv ch] [(.ref r1), (.int (1 : Int32))])) _
          refine st309.trans ?_
          show Steps p.tables e below (T309.setTop (mkF m 264 #[rv r0, rv r1, rv b16, .val (.long (0 : Int64)), .second, .val (.long (own_bit (ch - (64 : Int32)))), .second, iv (2 : Int32), iv (1 : Int32), iv ch] [(.int (1 : Int32)), (.int (1 : Int32))])) _
          refine XS.icmpYes X309.here hx rfl (pc0 := 264) (pc' := 321) rfl (hb hby d28_264) rfl (flt (by decide)).2.1 (by decide) (by decide) ?_
          exact kt
        obtain ⟨fs, hr, hrun, hended, hW, hsame⟩ := X309.leave (v := none) (fun _ => rfl)
        refine ⟨_, _, pre310 _ ?_, hrun, hended, _, _, rfl, ?_, ⟨_, rfl⟩, hW, hsame.mono (by decide) (by decide)⟩
        · show Steps p.tables e below (T309.setTop (mkF m 321 #[rv r0, rv r1, rv b16, .val (.long (0 : Int64)), .second, .val (.long (own_bit (ch - (64 : Int32)))), .second, iv (2 : Int32), iv (1 : Int32), iv ch] [])) _
          exact X309.returnOut hx Bd.returns (hb hby d28_321) hr
        · show Q28 Z r0 r1 va kc ch cs fm h0 n0 _ T309.heap _
          rw [hh309]
          exact ⟨rfl, N309, K297⟩
theorem d16_0 : decode prog_51_method_1_code 0 = .ok (.aload_n 0, 1) := by decide +kernel
theorem d16_1 : decode prog_51_method_1_code 1 = .ok (.invokespecial 1, 3) := by decide +kernel
theorem d16_4 : decode prog_51_method_1_code 4 = .ok (.aload_n 0, 1) := by decide +kernel
theorem d16_5 : decode prog_51_method_1_code 5 = .ok (.aload_n 1, 1) := by decide +kernel
theorem d16_6 : decode prog_51_method_1_code 6 = .ok (.putfield 7, 3) := by decide +kernel
theorem d16_9 : decode prog_51_method_1_code 9 = .ok (.aload_n 0, 1) := by decide +kernel
theorem d16_10 : decode prog_51_method_1_code 10 = .ok (.aload_n 1, 1) := by decide +kernel
theorem d16_11 : decode prog_51_method_1_code 11 = .ok (.bipush 42, 2) := by decide +kernel
theorem pd28 : parseMethodDescriptor "(I)I" = some ⟨[.int], some .int⟩ := by decide +kernel
theorem d16_13 : decode prog_51_method_1_code 13 = .ok (.invokevirtual 13, 3) := by decide +kernel
theorem d16_16 : decode prog_51_method_1_code 16 = .ok (.putfield 19, 3) := by decide +kernel
theorem d16_19 : decode prog_51_method_1_code 19 = .ok (.aload_n 0, 1) := by decide +kernel
theorem d16_20 : decode prog_51_method_1_code 20 = .ok (.aload_n 1, 1) := by decide +kernel
theorem d16_21 : decode prog_51_method_1_code 21 = .ok (.bipush 42, 2) := by decide +kernel
theorem d16_23 : decode prog_51_method_1_code 23 = .ok (.invokevirtual 23, 3) := by decide +kernel
theorem d16_26 : decode prog_51_method_1_code 26 = .ok (.putfield 26, 3) := by decide +kernel
theorem d16_29 : decode prog_51_method_1_code 29 = .ok (.aload_n 0, 1) := by decide +kernel
theorem d16_30 : decode prog_51_method_1_code 30 = .ok (.new 29, 3) := by decide +kernel
theorem d16_33 : decode prog_51_method_1_code 33 = .ok (.dup, 1) := by decide +kernel
theorem d16_34 : decode prog_51_method_1_code 34 = .ok (.aload_n 1, 1) := by decide +kernel
theorem pd29 : parseMethodDescriptor "(Ljava/lang/String;)V" = some ⟨[(.object "java/lang/String")], none⟩ := by decide +kernel
theorem d16_35 : decode prog_51_method_1_code 35 = .ok (.invokespecial 31, 3) := by decide +kernel
theorem d16_38 : decode prog_51_method_1_code 38 = .ok (.putfield 34, 3) := by decide +kernel
theorem d16_41 : decode prog_51_method_1_code 41 = .ok (.return_, 1) := by decide +kernel
theorem ef_16 (m : MethodId) (x0 : Addr) (x1 : Addr) : entryFrame m #[(.ref x0), (.ref x1)] 2 = mkF m 0 #[.val (.ref x0), .val (.ref x1)] [] := by first | (simp [entryFrame, mkF, argsToLocals, Value.category]; done) | rfl
def Q16 (Z : State) (r0 : Addr) (r1 : Addr) (va : Addr) (kc : ClassId) (ch : Int32) (ix : Int32) (cs : Int32) (fm : Value) (h0 : Heap) (n0 : Nat) (v : Option Value) (h : Heap) (L : List Loc) : Prop := v = none ∧ Fr n0 L ∧ Keep h0 h [r0] ∧ Fld Z h r0 "com/example/subject/subject/model/Wildcards" "pattern" "Ljava/lang/String;" (.ref r1) ∧ Fld Z h r0 "com/example/subject/subject/model/Wildcards" "firstStar" "I" (.int ix) ∧ Fld Z h r0 "com/example/subject/subject/model/Wildcards" "lastStar" "I" (.int ix)
set_option maxRecDepth 65536 in
set_option maxHeartbeats 40000000 in
theorem rm16 (l : Launch) (Z : State) (a0 : Array Value) (hw : ∀ d ∈ tables_1, d.before a0 Z = true) (ws : List Jvm.Cond) (r0 : Addr) (r1 : Addr) (va : Addr) (kc : ClassId) (ch : Int32) (ix : Int32) (cs : Int32) (fm : Value) (h0 : Heap) (n0 : Nat) (Z0 : n0 ≤ h0.size) (F_pattern_r0 : Fld Z h0 r0 "com/example/subject/subject/model/Wildcards" "pattern" "Ljava/lang/String;" .null) (F_firstStar_r0 : Fld Z h0 r0 "com/example/subject/subject/model/Wildcards" "firstStar" "I" (.int (0 : Int32))) (F_lastStar_r0 : Fld Z h0 r0 "com/example/subject/subject/model/Wildcards" "lastStar" "I" (.int (0 : Int32))) (F_places_r0 : Fld Z h0 r0 "com/example/subject/subject/model/Wildcards" "places" "Lcom/example/subject/subject/model/Wildcards$Places;" .null) (E_r0 : Exa Z h0 r0 "com/example/subject/subject/model/Wildcards") (g_r0 : n0 ≤ r0) (F_value_r1 : Fld Z h0 r1 "java/lang/String" "value" "[B" (.ref va)) (F_coder_r1 : Fld Z h0 r1 "java/lang/String" "coder" "B" (.int (0 : Int32))) (E_r1 : Exa Z h0 r1 "java/lang/String") (V_va : Arv Z h0 va kc .byte (1 : Int32) [(.int ch)] (.int (0 : Int32))) (O0 : Old Z n0 h0) (S_cs : Sta Z Z.heap "java/lang/String" "COMPACT_STRINGS" "Z" (.int cs)) (hcs : ¬ (cs = (0 : Int32))) (S_fm : Sta Z Z.heap "jdk/internal/util/Preconditions" "SIOOBE_FORMATTER" "Ljava/util/function/BiFunction;" fm) (hr_fm : fm.isRef = true) (hok_ch : own_ok ch) (hix : own_ix ch = ix) :
    MetFree l (⟨"com/example/subject/subject/model/Wildcards", "<init>", "(Ljava/lang/String;)V"⟩ : MethodName) (head1 (Jvm.Cond.code (⟨"com/example/subject/subject/model/Wildcards", "<init>", "(Ljava/lang/String;)V"⟩ : MethodName) prog_51_method_1_code 2 none :: ws) ({ frames := 5, cells := 4, slots := 9, locals := 76 } : Room)) (fun a U => a = #[(.ref r0), (.ref r1)] ∧ Z.Warmed39 U.vm ∧ U.heap = h0) (fun _ _ _ _ _ => True) (fun _ U o U' => ∃ v L, o = .returned v ∧ Q16 Z r0 r1 va kc ch ix cs fm h0 n0 v U'.heap L ∧ FrameEnd U o U' L ({ frames := 5, cells := 4, slots := 9, locals := 76 } : Room).cells ({ frames := 5, cells := 4, slots := 9, locals := 76 } : Room).slots) := by
  refine MetFree.of_bodySF (plainFor_of_name pn0) hisR ?_
  intro p e s m args below meth c s₁ Bd hml0 hP hK
  obtain ⟨rfl, hZ, hh⟩ := hP
  have hx := Bd.exec
  have hby := Bd.bytes
  have hml : c.maxLocals = 2 := hml0
  have hown : s.vm.findClass "com/example/subject/subject/model/Wildcards" = some m.cls := findClass_of_methodNamed Bd.named
  have hnm := (name_of_methodNamed Bd.named Bd.method).1
  have X0 : Stand p l e ({ frames := 5, cells := 4, slots := 9, locals := 76 } : Room) s m #[(.ref r0), (.ref r1)] below meth c s₁ [] 0 0 := Stand.of_body Bd
  have e0 : s₁.heap = h0 := by rw [← hh, Bd.state]; rfl
  have N0 := Fr.nil n0
  have pre0 : ∀ t, Steps p.tables e below (s₁.setTop (mkF m 0 #[rv r0, rv r1] [])) t → Steps p.tables e below (s₁.setTop (entryFrame m #[(.ref r0), (.ref r1)] 2)) t := fun t k => castTop (ef_16 m r0 r1) k
  have pre1 : ∀ t, Steps p.tables e below (s₁.setTop (mkF m 1 #[rv r0, rv r1] [(.ref r0)])) t → Steps p.tables e below (s₁.setTop (entryFrame m #[(.ref r0), (.ref r1)] 2)) t := by
    intro t kt
    refine pre0 _ ?_
    show Steps p.tables e below (s₁.setTop (mkF m 0 #[rv r0, rv r1] [])) _
    refine XS.aloadN X0.here hx rfl (hb hby d16_0) rfl rfl ?_
    exact kt
  obtain ⟨T2, X2, e2, st2⟩ := initO X0 hx hZ hown (hw _ (List.mem_of_getElem? (i := 80) rfl)) (hw _ (List.mem_of_getElem? (i := 25) rfl)) (hw _ (List.mem_of_getElem? (i := 26) rfl)) e0 (g := (mkF m 1 #[rv r0, rv r1] [(.ref r0)])) rfl (by rw [hml]; rfl) rfl (hb hby d16_1) (by decide) (W := 0) (by show 2 * 0 + _ ≤ _; exact Nat.le_of_eq rfl) (by decide)
  have pre3 : ∀ t, Steps p.tables e below (T2.setTop (mkF m 6 #[rv r0, rv r1] [(.ref r1), (.ref r0)])) t → Steps p.tables e below (s₁.setTop (entryFrame m #[(.ref r0), (.ref r1)] 2)) t := by
    intro t kt
    refine pre1 _ ?_
    show Steps p.tables e below (s₁.setTop (mkF m 1 #[rv r0, rv r1] [(.ref r0)])) _
    refine st2 _ ?_
    show Steps p.tables e below (T2.setTop (mkF m 4 #[rv r0, rv r1] [])) _
    refine XS.aloadN X2.here hx rfl (hb hby d16_4) rfl rfl ?_
    refine XS.aloadN X2.here hx rfl (hb hby d16_5) rfl rfl ?_
    exact kt
  obtain ⟨T4, h4, X4, e4, W4, st4⟩ := putF X2 hx hZ hown (host := "") (Or.inl (hw _ (List.mem_of_getElem? (i := 81) rfl))) Via.refl e2 F_pattern_r0 E_r0 (Or.inr ⟨(hw _ (List.mem_of_getElem? (i := 82) rfl)), rfl, hnm⟩) (hw _ (List.mem_of_getElem? (i := 76) rfl)) (ty := (.object "java/lang/String")) (by decide) rfl rfl (g := (mkF m 6 #[rv r0, rv r1] [(.ref r1), (.ref r0)])) rfl rfl (hb hby d16_6)
  have Fw4 : Fld Z h4 r0 "com/example/subject/subject/model/Wildcards" "pattern" "Ljava/lang/String;" (.ref r1) := F_pattern_r0.same W4
  have K4 : Keep h0 h4 [r0] := (Keep.refl h0 [r0]).wr W4 (Or.inl (List.mem_of_getElem? (i := 0) rfl))
  have N4 := Fr.snoc X4 N0 g_r0
  have pre5 : ∀ t, Steps p.tables e below (T4.setTop (mkF m 13 #[rv r0, rv r1] [(.int (42 : Int32)), (.ref r1), (.ref r0)])) t → Steps p.tables e below (s₁.setTop (entryFrame m #[(.ref r0), (.ref r1)] 2)) t := by
    intro t kt
    refine pre3 _ ?_
    show Steps p.tables e below (T2.setTop (mkF m 6 #[rv r0, rv r1] [(.ref r1), (.ref r0)])) _
    refine st4 _ ?_
    show Steps p.tables e below (T4.setTop (mkF m 9 #[rv r0, rv r1] [])) _
    refine XS.aloadN X4.here hx rfl (hb hby d16_9) rfl rfl ?_
    refine XS.aloadN X4.here hx rfl (hb hby d16_10) rfl rfl ?_
    refine XS.bipush X4.here hx rfl (hb hby d16_11) ?_
    exact kt
  obtain ⟨cq6, kq6, q6a, q6b, q6c⟩ := isOf hZ e4 (E_r1.wr W4)
  obtain ⟨_, _, ⟨T6, L6, k6, n6⟩, -, X6, ⟨Lc6, hQ6, l6, y6, z6⟩, st6⟩ := X4.virtualBack hx (y := (⟨"java/lang/String", "indexOf", "(I)I"⟩ : MethodName)) (z := (⟨"java/lang/String", "indexOf", "(I)I"⟩ : MethodName)) hown (mvT hZ (hw _ (List.mem_of_getElem? (i := 83) rfl))) (mvT hZ (hw _ (List.mem_of_getElem? (i := 84) rfl))) (notFace_of_selects (args := #[]) (mvT hZ (hw _ (List.mem_of_getElem? (i := 86) rfl)))) (mvT hZ (hw _ (List.mem_of_getElem? (i := 86) rfl))) (mvT hZ (hw _ (List.mem_of_getElem? (i := 85) rfl))) (by decide) (backOf (W := 1) (rm17 l Z a0 hw [] r1 va kc ch ix cs h4 n0 (Nat.le_trans Z0 K4.1) (F_value_r1.other W4 (Or.inl (Exa.ne (E_r1.wr W4) (E_r0.wr W4) (by decide)))) (F_coder_r1.other W4 (Or.inl (Exa.ne (E_r1.wr W4) (E_r0.wr W4) (by decide)))) (E_r1.wr W4) (V_va.other W4 (Ne.symm (Exa.neArv E_r0 V_va (hw _ (List.mem_of_getElem? (i := 76) rfl))))) (O0.keep K4 (allS g_r0 all0)) S_cs hcs hix) hZ (hw _ (List.mem_of_getElem? (i := 87) rfl)) (hw _ (List.mem_of_getElem? (i := 7) rfl)) (by decide) (by decide)) q6a q6c (g := (mkF m 13 #[rv r0, rv r1] [(.int (42 : Int32)), (.ref r1), (.ref r0)])) rfl (by rw [hml]; rfl) (Steps.refl _) (argsL := [(.int (42 : Int32))]) (rest := [(.ref r0)]) (lenOf pd28 rfl) rfl (by show 2 * 0 + _ ≤ _; exact Nat.le_of_eq rfl) (hb hby d16_13) (fun _ _ => ⟨rfl, e4, (by decide : 0 + 0 ≤ _), (by decide : 0 + 0 ≤ _)⟩)
  dsimp only [Pt.U, Pt.locs, Pt.cells, Pt.slots] at X6 l6 y6 z6 st6 hQ6
  subst l6 y6 z6
  obtain ⟨rfl, N6q, hh6⟩ := hQ6
  have N6 := Fr.app N4 N6q
  have pre7 : ∀ t, Steps p.tables e below (T6.setTop (mkF m 16 #[rv r0, rv r1] [(.int ix), (.ref r0)])) t → Steps p.tables e below (s₁.setTop (entryFrame m #[(.ref r0), (.ref r1)] 2)) t := by
    intro t kt
    refine pre5 _ ?_
    show Steps p.tables e below (T4.setTop (mkF m 13 #[rv r0, rv r1] [(.int (42 : Int32)), (.ref r1), (.ref r0)])) _
    refine st6.trans ?_
    exact kt
  obtain ⟨T8, h8, X8, e8, W8, st8⟩ := putF X6 hx hZ hown (host := "") (Or.inl (hw _ (List.mem_of_getElem? (i := 114) rfl))) Via.refl hh6 (F_firstStar_r0.other W4 (Or.inr (slot_ne (Or.inr (hw _ (List.mem_of_getElem? (i := 115) rfl))) (Or.inr (hw _ (List.mem_of_getElem? (i := 82) rfl))) (by decide) (t := .int) (t' := (.object "java/lang/String")) (by decide) (by decide)))) (E_r0.wr W4) (Or.inr ⟨(hw _ (List.mem_of_getElem? (i := 115) rfl)), rfl, hnm⟩) (hw _ (List.mem_of_getElem? (i := 76) rfl)) (ty := .int) (by decide) rfl rfl (g := (mkF m 16 #[rv r0, rv r1] [(.int ix), (.ref r0)])) rfl rfl (hb hby d16_16)
  have Fw8 : Fld Z h8 r0 "com/example/subject/subject/model/Wildcards" "firstStar" "I" (.int ix) := (F_firstStar_r0.other W4 (Or.inr (slot_ne (Or.inr (hw _ (List.mem_of_getElem? (i := 115) rfl))) (Or.inr (hw _ (List.mem_of_getElem? (i := 82) rfl))) (by decide) (t := .int) (t' := (.object "java/lang/String")) (by decide) (by decide)))).same W8
  have K8 : Keep h0 h8 [r0] := K4.wr W8 (Or.inl (List.mem_of_getElem? (i := 0) rfl))
  have N8 := Fr.snoc X8 N6 g_r0
  have pre9 : ∀ t, Steps p.tables e below (T8.setTop (mkF m 23 #[rv r0, rv r1] [(.int (42 : Int32)), (.ref r1), (.ref r0)])) t → Steps p.tables e below (s₁.setTop (entryFrame m #[(.ref r0), (.ref r1)] 2)) t := by
    intro t kt
    refine pre7 _ ?_
    show Steps p.tables e below (T6.setTop (mkF m 16 #[rv r0, rv r1] [(.int ix), (.ref r0)])) _
    refine st8 _ ?_
    show Steps p.tables e below (T8.setTop (mkF m 19 #[rv r0, rv r1] [])) _
    refine XS.aloadN X8.here hx rfl (hb hby d16_19) rfl rfl ?_
    refine XS.aloadN X8.here hx rfl (hb hby d16_20) rfl rfl ?_
    refine XS.bipush X8.here hx rfl (hb hby d16_21) ?_
    exact kt
  obtain ⟨cq10, kq10, q10a, q10b, q10c⟩ := isOf hZ e8 ((E_r1.wr W4).wr W8)
  obtain ⟨_, _, ⟨T10, L10, k10, n10⟩, -, X10, ⟨Lc10, hQ10, l10, y10, z10⟩, st10⟩ := X8.virtualBack hx (y := (⟨"java/lang/String", "lastIndexOf", "(I)I"⟩ : MethodName)) (z := (⟨"java/lang/String", "lastIndexOf", "(I)I"⟩ : MethodName)) hown (mvT hZ (hw _ (List.mem_of_getElem? (i := 116) rfl))) (mvT hZ (hw _ (List.mem_of_getElem? (i := 117) rfl))) (notFace_of_selects (args := #[]) (mvT hZ (hw _ (List.mem_of_getElem? (i := 119) rfl)))) (mvT hZ (hw _ (List.mem_of_getElem? (i := 119) rfl))) (mvT hZ (hw _ (List.mem_of_getElem? (i := 118) rfl))) (by decide) (backOf (W := 1) (rm25 l Z a0 hw [] r1 va kc ch ix cs h8 n0 (Nat.le_trans Z0 K8.1) ((F_value_r1.other W4 (Or.inl (Exa.ne ((E_r1.wr W4).wr W8) ((E_r0.wr W4).wr W8) (by decide)))).other W8 (Or.inl (Exa.ne ((E_r1.wr W4).wr W8) ((E_r0.wr W4).wr W8) (by decide)))) ((F_coder_r1.other W4 (Or.inl (Exa.ne ((E_r1.wr W4).wr W8) ((E_r0.wr W4).wr W8) (by decide)))).other W8 (Or.inl (Exa.ne ((E_r1.wr W4).wr W8) ((E_r0.wr W4).wr W8) (by decide)))) ((E_r1.wr W4).wr W8) ((V_va.other W4 (Ne.symm (Exa.neArv E_r0 V_va (hw _ (List.mem_of_getElem? (i := 76) rfl))))).other W8 (Ne.symm (Exa.neArv E_r0 V_va (hw _ (List.mem_of_getElem? (i := 76) rfl))))) (O0.keep K8 (allS g_r0 all0)) S_cs hcs hix) hZ (hw _ (List.mem_of_getElem? (i := 120) rfl)) (hw _ (List.mem_of_getElem? (i := 7) rfl)) (by decide) (by decide)) q10a q10c (g := (mkF m 23 #[rv r0, rv r1] [(.int (42 : Int32)), (.ref r1), (.ref r0)])) rfl (by rw [hml]; rfl) (Steps.refl _) (argsL := [(.int (42 : Int32))]) (rest := [(.ref r0)]) (lenOf pd28 rfl) rfl (by show 2 * 0 + _ ≤ _; exact Nat.le_of_eq rfl) (hb hby d16_23) (fun _ _ => ⟨rfl, e8, (by decide : 0 + 0 ≤ _), (by decide : 0 + 0 ≤ _)⟩)
  dsimp only [Pt.U, Pt.locs, Pt.cells, Pt.slots] at X10 l10 y10 z10 st10 hQ10
  subst l10 y10 z10
  obtain ⟨rfl, N10q, hh10⟩ := hQ10
  have N10 := Fr.app N8 N10q
  have pre11 : ∀ t, Steps p.tables e below (T10.setTop (mkF m 26 #[rv r0, rv r1] [(.int ix), (.ref r0)])) t → Steps p.tables e below (s₁.setTop (entryFrame m #[(.ref r0), (.ref r1)] 2)) t := by
    intro t kt
    refine pre9 _ ?_
    show Steps p.tables e below (T8.setTop (mkF m 23 #[rv r0, rv r1] [(.int (42 : Int32)), (.ref r1), (.ref r0)])) _
    refine st10.trans ?_
    exact kt
  obtain ⟨T12, h12, X12, e12, W12, st12⟩ := putF X10 hx hZ hown (host := "") (Or.inl (hw _ (List.mem_of_getElem? (i := 129) rfl))) Via.refl hh10 ((F_lastStar_r0.other W4 (Or.inr (slot_ne (Or.inr (hw _ (List.mem_of_getElem? (i := 130) rfl))) (Or.inr (hw _ (List.mem_of_getElem? (i := 82) rfl))) (by decide) (t := .int) (t' := (.object "java/lang/String")) (by decide) (by decide)))).other W8 (Or.inr (slot_ne (Or.inr (hw _ (List.mem_of_getElem? (i := 130) rfl))) (Or.inr (hw _ (List.mem_of_getElem? (i := 115) rfl))) (by decide) (t := .int) (t' := .int) (by decide) (by decide)))) ((E_r0.wr W4).wr W8) (Or.inr ⟨(hw _ (List.mem_of_getElem? (i := 130) rfl)), rfl, hnm⟩) (hw _ (List.mem_of_getElem? (i := 76) rfl)) (ty := .int) (by decide) rfl rfl (g := (mkF m 26 #[rv r0, rv r1] [(.int ix), (.ref r0)])) rfl rfl (hb hby d16_26)
  have Fw12 : Fld Z h12 r0 "com/example/subject/subject/model/Wildcards" "lastStar" "I" (.int ix) := ((F_lastStar_r0.other W4 (Or.inr (slot_ne (Or.inr (hw _ (List.mem_of_getElem? (i := 130) rfl))) (Or.inr (hw _ (List.mem_of_getElem? (i := 82) rfl))) (by decide) (t := .int) (t' := (.object "java/lang/String")) (by decide) (by decide)))).other W8 (Or.inr (slot_ne (Or.inr (hw _ (List.mem_of_getElem? (i := 130) rfl))) (Or.inr (hw _ (List.mem_of_getElem? (i := 115) rfl))) (by decide) (t := .int) (t' := .int) (by decide) (by decide)))).same W12
  have K12 : Keep h0 h12 [r0] := K8.wr W12 (Or.inl (List.mem_of_getElem? (i := 0) rfl))
  have N12 := Fr.snoc X12 N10 g_r0
  have pre13 : ∀ t, Steps p.tables e below (T12.setTop (mkF m 30 #[rv r0, rv r1] [(.ref r0)])) t → Steps p.tables e below (s₁.setTop (entryFrame m #[(.ref r0), (.ref r1)] 2)) t := by
    intro t kt
    refine pre11 _ ?_
    show Steps p.tables e below (T10.setTop (mkF m 26 #[rv r0, rv r1] [(.int ix), (.ref r0)])) _
    refine st12 _ ?_
    show Steps p.tables e below (T12.setTop (mkF m 29 #[rv r0, rv r1] [])) _
    refine XS.aloadN X12.here hx rfl (hb hby d16_29) rfl rfl ?_
    exact kt
  obtain ⟨T14, h14, X14, e14, E14, A14, D14, -, st14⟩ := newO X12 hx hZ hown (hw _ (List.mem_of_getElem? (i := 131) rfl)) (hw _ (List.mem_of_getElem? (i := 132) rfl)) (hw _ (List.mem_of_getElem? (i := 133) rfl)) e12 (g := (mkF m 30 #[rv r0, rv r1] [(.ref r0)])) rfl (hb hby d16_30) (by decide) (by decide)
  obtain ⟨b14, g14⟩ : ∃ z, z = h12.size := ⟨_, rfl⟩
  rw [← g14] at A14 D14 st14
  have g_b14 : n0 ≤ b14 := Nat.le_trans (Nat.le_trans Z0 K12.1) (Nat.le_of_eq g14.symm)
  have sz_b14 : h0.size ≤ b14 := Nat.le_trans K12.1 (Nat.le_of_eq g14.symm)
  have F_words_b14 : Fld Z h14 b14 "com/example/subject/subject/model/Wildcards$Places" "words" "I" (.int (0 : Int32)) := D14 (Or.inr (hw _ (List.mem_of_getElem? (i := 140) rfl))) (ty := .int) (by decide)
  have F_stars_b14 : Fld Z h14 b14 "com/example/subject/subject/model/Wildcards$Places" "stars" "[J" .null := D14 (Or.inr (hw _ (List.mem_of_getElem? (i := 143) rfl))) (ty := (.array .long)) (by decide)
  have F_heldLow_b14 : Fld Z h14 b14 "com/example/subject/subject/model/Wildcards$Places" "heldLow" "J" (.long (0 : Int64)) := D14 (Or.inr (hw _ (List.mem_of_getElem? (i := 161) rfl))) (ty := .long) (by decide)
  have F_heldHigh_b14 : Fld Z h14 b14 "com/example/subject/subject/model/Wildcards$Places" "heldHigh" "J" (.long (0 : Int64)) := D14 (Or.inr (hw _ (List.mem_of_getElem? (i := 163) rfl))) (ty := .long) (by decide)
  have F_fits_b14 : Fld Z h14 b14 "com/example/subject/subject/model/Wildcards$Places" "fits" "[J" .null := D14 (Or.inr (hw _ (List.mem_of_getElem? (i := 172) rfl))) (ty := (.array .long)) (by decide)
  have K14 : Keep h0 h14 [r0] := K12.ext E14
  have pre15 : ∀ t, Steps p.tables e below (T14.setTop (mkF m 35 #[rv r0, rv r1] [(.ref r1), (.ref b14), (.ref b14), (.ref r0)])) t → Steps p.tables e below (s₁.setTop (entryFrame m #[(.ref r0), (.ref r1)] 2)) t := by
    intro t kt
    refine pre13 _ ?_
    show Steps p.tables e below (T12.setTop (mkF m 30 #[rv r0, rv r1] [(.ref r0)])) _
    refine st14 _ ?_
    show Steps p.tables e below (T14.setTop (mkF m 33 #[rv r0, rv r1] [(.ref b14), (.ref r0)])) _
    refine XS.dup X14.here hx rfl (hb hby d16_33) rfl rfl ?_
    refine XS.aloadN X14.here hx rfl (hb hby d16_34) rfl rfl ?_
    exact kt
  have f16 := ((((V_va.other W4 (Ne.symm (Exa.neArv E_r0 V_va (hw _ (List.mem_of_getElem? (i := 76) rfl))))).other W8 (Ne.symm (Exa.neArv E_r0 V_va (hw _ (List.mem_of_getElem? (i := 76) rfl))))).other W12 (Ne.symm (Exa.neArv E_r0 V_va (hw _ (List.mem_of_getElem? (i := 76) rfl))))).ext E14)
  have f17 := ((((E_r0.wr W4).wr W8).wr W12).ext E14)
  have f18 := (((Fw4.other W8 (Or.inr (slot_ne (Or.inr (hw _ (List.mem_of_getElem? (i := 82) rfl))) (Or.inr (hw _ (List.mem_of_getElem? (i := 115) rfl))) (by decide) (t := (.object "java/lang/String")) (t' := .int) (by decide) (by decide)))).other W12 (Or.inr (slot_ne (Or.inr (hw _ (List.mem_of_getElem? (i := 82) rfl))) (Or.inr (hw _ (List.mem_of_getElem? (i := 130) rfl))) (by decide) (t := (.object "java/lang/String")) (t' := .int) (by decide) (by decide)))).ext E14)
  have f19 := ((((F_places_r0.other W4 (Or.inr (slot_ne (Or.inr (hw _ (List.mem_of_getElem? (i := 183) rfl))) (Or.inr (hw _ (List.mem_of_getElem? (i := 82) rfl))) (by decide) (t := (.object "com/example/subject/subject/model/Wildcards$Places")) (t' := (.object "java/lang/String")) (by decide) (by decide)))).other W8 (Or.inr (slot_ne (Or.inr (hw _ (List.mem_of_getElem? (i := 183) rfl))) (Or.inr (hw _ (List.mem_of_getElem? (i := 115) rfl))) (by decide) (t := (.object "com/example/subject/subject/model/Wildcards$Places")) (t' := .int) (by decide) (by decide)))).other W12 (Or.inr (slot_ne (Or.inr (hw _ (List.mem_of_getElem? (i := 183) rfl))) (Or.inr (hw _ (List.mem_of_getElem? (i := 130) rfl))) (by decide) (t := (.object "com/example/subject/subject/model/Wildcards$Places")) (t' := .int) (by decide) (by decide)))).ext E14)
  have f20 := ((((E_r1.wr W4).wr W8).wr W12).ext E14)
  have f21 := ((((F_value_r1.other W4 (Or.inl (Exa.ne f20 f17 (by decide)))).other W8 (Or.inl (Exa.ne f20 f17 (by decide)))).other W12 (Or.inl (Exa.ne f20 f17 (by decide)))).ext E14)
  have f22 := ((((F_coder_r1.other W4 (Or.inl (Exa.ne f20 f17 (by decide)))).other W8 (Or.inl (Exa.ne f20 f17 (by decide)))).other W12 (Or.inl (Exa.ne f20 f17 (by decide)))).ext E14)
  obtain ⟨_, _, ⟨T23, L23, k23, n23⟩, -, X23, ⟨Lc23, hQ23, l23, y23, z23⟩, st23⟩ := X14.specialBack hx (y := (⟨"com/example/subject/subject/model/Wildcards$Places", "<init>", "(Ljava/lang/String;)V"⟩ : MethodName)) rfl hown (mvT hZ (hw _ (List.mem_of_getElem? (i := 134) rfl))) (mvT hZ (hw _ (List.mem_of_getElem? (i := 135) rfl))) (mvT hZ (hw _ (List.mem_of_getElem? (i := 136) rfl))) (by decide) (backOf (W := 2) (rm28 l Z a0 hw [] b14 r1 va kc ch cs fm h14 n0 (Nat.le_trans Z0 K14.1) F_words_b14 F_heldLow_b14 F_heldHigh_b14 F_fits_b14 F_stars_b14 A14 g_b14 f21 f22 f20 f16 (O0.keep K14 (allS g_r0 all0)) S_cs hcs S_fm hr_fm hok_ch) hZ (hw _ (List.mem_of_getElem? (i := 136) rfl)) (hw _ (List.mem_of_getElem? (i := 133) rfl)) (by decide) (by decide)) (g := (mkF m 35 #[rv r0, rv r1] [(.ref r1), (.ref b14), (.ref b14), (.ref r0)])) rfl (by rw [hml]; rfl) (Steps.refl _) (a := b14) (argsL := [(.ref r1)]) (rest := [(.ref b14), (.ref r0)]) (lenOf pd29 rfl) rfl (by show 2 * 0 + _ ≤ _; exact Nat.le_of_eq rfl) (hb hby d16_35) (fun _ _ => ⟨rfl, e14, (by decide : 1 + 3 ≤ _), (by decide : 5 + 4 ≤ _)⟩)
  dsimp only [Pt.U, Pt.locs, Pt.cells, Pt.slots] at X23 l23 y23 z23 st23 hQ23
  subst l23 y23 z23
  obtain ⟨rfl, N23q, Kc23⟩ := hQ23
  have N23 := Fr.app N12 N23q
  have K23 : Keep h0 T23.heap [r0] := K14.trans Kc23 (allS (Or.inr sz_b14) all0)
  have pre24 : ∀ t, Steps p.tables e below (T23.setTop (mkF m 38 #[rv r0, rv r1] [(.ref b14), (.ref r0)])) t → Steps p.tables e below (s₁.setTop (entryFrame m #[(.ref r0), (.ref r1)] 2)) t := by
    intro t kt
    refine pre15 _ ?_
    show Steps p.tables e below (T14.setTop (mkF m 35 #[rv r0, rv r1] [(.ref r1), (.ref b14), (.ref b14), (.ref r0)])) _
    refine st23.trans ?_
    exact kt
  obtain ⟨T25, h25, X25, e25, W25, st25⟩ := putF X23 hx hZ hown (host := "") (Or.inl (hw _ (List.mem_of_getElem? (i := 182) rfl))) Via.refl rfl (f19.keep Kc23 (ninS (Exa.ne (f17.keep Kc23) (A14.keep Kc23) (by decide)) nin0)) (f17.keep Kc23) (Or.inr ⟨(hw _ (List.mem_of_getElem? (i := 183) rfl)), rfl, hnm⟩) (hw _ (List.mem_of_getElem? (i := 76) rfl)) (ty := (.object "com/example/subject/subject/model/Wildcards$Places")) (by decide) rfl rfl (g := (mkF m 38 #[rv r0, rv r1] [(.ref b14), (.ref r0)])) rfl rfl (hb hby d16_38)
  have Fw25 : Fld Z h25 r0 "com/example/subject/subject/model/Wildcards" "places" "Lcom/example/subject/subject/model/Wildcards$Places;" (.ref b14) := (f19.keep Kc23 (ninS (Exa.ne (f17.keep Kc23) (A14.keep Kc23) (by decide)) nin0)).same W25
  have K25 : Keep h0 h25 [r0] := K23.wr W25 (Or.inl (List.mem_of_getElem? (i := 0) rfl))
  have N25 := Fr.snoc X25 N23 g_r0
  have pre26 : ∀ t, Steps p.tables e below (T25.setTop (mkF m 41 #[rv r0, rv r1] [])) t → Steps p.tables e below (s₁.setTop (entryFrame m #[(.ref r0), (.ref r1)] 2)) t := by
    intro t kt
    refine pre24 _ ?_
    show Steps p.tables e below (T23.setTop (mkF m 38 #[rv r0, rv r1] [(.ref b14), (.ref r0)])) _
    refine st25 _ ?_
    exact kt
  obtain ⟨fs, hr, hrun, hended, hW, hsame⟩ := X25.leave (v := none) (fun _ => rfl)
  refine ⟨_, _, pre26 _ ?_, hrun, hended, _, _, rfl, ?_, ⟨_, rfl⟩, hW, hsame.mono (by decide) (by decide)⟩
  · show Steps p.tables e below (T25.setTop (mkF m 41 #[rv r0, rv r1] [])) _
    exact X25.returnOut hx Bd.returns (hb hby d16_41) hr
  · show Q16 Z r0 r1 va kc ch ix cs fm h0 n0 _ T25.heap _
    rw [e25]
    exact ⟨rfl, N25, K25, ((f18.keep Kc23 (ninS (Exa.ne ((f17.keep Kc23).wr W25) ((A14.keep Kc23).wr W25) (by decide)) nin0)).other W25 (Or.inr (slot_ne (Or.inr (hw _ (List.mem_of_getElem? (i := 82) rfl))) (Or.inr (hw _ (List.mem_of_getElem? (i := 183) rfl))) (by decide) (t := (.object "java/lang/String")) (t' := (.object "com/example/subject/subject/model/Wildcards$Places")) (by decide) (by decide)))), ((((Fw8.other W12 (Or.inr (slot_ne (Or.inr (hw _ (List.mem_of_getElem? (i := 115) rfl))) (Or.inr (hw _ (List.mem_of_getElem? (i := 130) rfl))) (by decide) (t := .int) (t' := .int) (by decide) (by decide)))).ext E14).keep Kc23 (ninS (Exa.ne ((f17.keep Kc23).wr W25) ((A14.keep Kc23).wr W25) (by decide)) nin0)).other W25 (Or.inr (slot_ne (Or.inr (hw _ (List.mem_of_getElem? (i := 115) rfl))) (Or.inr (hw _ (List.mem_of_getElem? (i := 183) rfl))) (by decide) (t := .int) (t' := (.object "com/example/subject/subject/model/Wildcards$Places")) (by decide) (by decide)))), (((Fw12.ext E14).keep Kc23 (ninS (Exa.ne ((f17.keep Kc23).wr W25) ((A14.keep Kc23).wr W25) (by decide)) nin0)).other W25 (Or.inr (slot_ne (Or.inr (hw _ (List.mem_of_getElem? (i := 130) rfl))) (Or.inr (hw _ (List.mem_of_getElem? (i := 183) rfl))) (by decide) (t := .int) (t' := (.object "com/example/subject/subject/model/Wildcards$Places")) (by decide) (by decide))))⟩
theorem d8_0 : decode prog_51_method_2_code 0 = .ok (.aload_n 0, 1) := by decide +kernel
theorem d8_1 : decode prog_51_method_2_code 1 = .ok (.astore_n 1, 1) := by decide +kernel
theorem d8_2 : decode prog_51_method_2_code 2 = .ok (.aload_n 0, 1) := by decide +kernel
theorem d8_3 : decode prog_51_method_2_code 3 = .ok (.ldc 38, 2) := by decide +kernel
theorem pd30 : parseMethodDescriptor "(Ljava/lang/CharSequence;)Z" = some ⟨[(.object "java/lang/CharSequence")], some .boolean⟩ := by decide +kernel
theorem d8_5 : decode prog_51_method_2_code 5 = .ok (.invokevirtual 40, 3) := by decide +kernel
theorem d8_8 : decode prog_51_method_2_code 8 = .ok (.ifCond .eq 69, 3) := by decide +kernel
theorem d8_77 : decode prog_51_method_2_code 77 = .ok (.new 8, 3) := by decide +kernel
theorem d8_80 : decode prog_51_method_2_code 80 = .ok (.dup, 1) := by decide +kernel
theorem d8_81 : decode prog_51_method_2_code 81 = .ok (.aload_n 1, 1) := by decide +kernel
theorem d8_82 : decode prog_51_method_2_code 82 = .ok (.invokespecial 63, 3) := by decide +kernel
theorem d8_85 : decode prog_51_method_2_code 85 = .ok (.areturn, 1) := by decide +kernel
theorem ef_8 (m : MethodId) (x0 : Addr) : entryFrame m #[(.ref x0)] 5 = mkF m 0 #[.val (.ref x0), .unset, .unset, .unset, .unset] [] := by first | (simp [entryFrame, mkF, argsToLocals, Value.category]; done) | rfl
def Q8 (Z : State) (r0 : Addr) (va : Addr) (kc : ClassId) (ch : Int32) (ix : Int32) (cs : Int32) (fm : Value) (h0 : Heap) (n0 : Nat) (v : Option Value) (h : Heap) (L : List Loc) : Prop := ∃ x, v = some (.ref x) ∧ Fr n0 L ∧ Keep h0 h [] ∧ h0.size ≤ x ∧ Exa Z h x "com/example/subject/subject/model/Wildcards" ∧ Fld Z h x "com/example/subject/subject/model/Wildcards" "pattern" "Ljava/lang/String;" (.ref r0) ∧ Fld Z h x "com/example/subject/subject/model/Wildcards" "firstStar" "I" (.int ix) ∧ Fld Z h x "com/example/subject/subject/model/Wildcards" "lastStar" "I" (.int ix)
set_option maxRecDepth 65536 in
set_option maxHeartbeats 40000000 in
theorem rm8 (l : Launch) (Z : State) (a0 : Array Value) (hw : ∀ d ∈ tables_1, d.before a0 Z = true) (ws : List Jvm.Cond) (r0 : Addr) (va : Addr) (kc : ClassId) (ch : Int32) (ix : Int32) (cs : Int32) (fm : Value) (h0 : Heap) (n0 : Nat) (Z0 : n0 ≤ h0.size) (F_value_r0 : Fld Z h0 r0 "java/lang/String" "value" "[B" (.ref va)) (F_coder_r0 : Fld Z h0 r0 "java/lang/String" "coder" "B" (.int (0 : Int32))) (E_r0 : Exa Z h0 r0 "java/lang/String") (V_va : Arv Z h0 va kc .byte (1 : Int32) [(.int ch)] (.int (0 : Int32))) (O0 : Old Z n0 h0) (S_cs : Sta Z Z.heap "java/lang/String" "COMPACT_STRINGS" "Z" (.int cs)) (hcs : ¬ (cs = (0 : Int32))) (S_fm : Sta Z Z.heap "jdk/internal/util/Preconditions" "SIOOBE_FORMATTER" "Ljava/util/function/BiFunction;" fm) (hr_fm : fm.isRef = true) (hok_ch : own_ok ch) (hix : own_ix ch = ix) :
    MetFree l (⟨"com/example/subject/subject/model/Wildcards", "compile", "(Ljava/lang/String;)Lcom/example/subject/subject/model/Wildcards;"⟩ : MethodName) (head1 (Jvm.Cond.code (⟨"com/example/subject/subject/model/Wildcards", "compile", "(Ljava/lang/String;)Lcom/example/subject/subject/model/Wildcards;"⟩ : MethodName) prog_51_method_2_code 5 (some (.object "com/example/subject/subject/model/Wildcards")) :: ws) ({ frames := 6, cells := 7, slots := 25, locals := 90 } : Room)) (fun a U => a = #[(.ref r0)] ∧ Z.Warmed39 U.vm ∧ U.heap = h0 ∧ CHv Z consts_1 U.vm h0) (fun _ _ _ _ _ => True) (fun _ U o U' => ∃ v L, o = .returned v ∧ Q8 Z r0 va kc ch ix cs fm h0 n0 v U'.heap L ∧ ReturnedEndW U o U' L ({ frames := 6, cells := 7, slots := 25, locals := 90 } : Room).cells ({ frames := 6, cells := 7, slots := 25, locals := 90 } : Room).slots) := by
  refine MetFree.of_bodySF (plainFor_of_name pn0) hisR ?_
  intro p e s m args below meth c s₁ Bd hml0 hP hK
  obtain ⟨rfl, hZ, hh, hH⟩ := hP
  have hx := Bd.exec
  have hby := Bd.bytes
  have hml : c.maxLocals = 5 := hml0
  have hown : s.vm.findClass "com/example/subject/subject/model/Wildcards" = some m.cls := findClass_of_methodNamed Bd.named
  have hnm := (name_of_methodNamed Bd.named Bd.method).1
  have X0 : Stand p l e ({ frames := 6, cells := 7, slots := 25, locals := 90 } : Room) s m #[(.ref r0)] below meth c s₁ [] 0 0 := Stand.of_body Bd
  have e0 : s₁.heap = h0 := by rw [← hh, Bd.state]; rfl
  have N0 := Fr.nil n0
  have pre0 : ∀ t, Steps p.tables e below (s₁.setTop (mkF m 0 #[rv r0, .unset, .unset, .unset, .unset] [])) t → Steps p.tables e below (s₁.setTop (entryFrame m #[(.ref r0)] 5)) t := fun t k => castTop (ef_8 m r0) k
  have hS0 : s.Since s.vm h0.size := (State.WarmedH.refl s).since _
  have pre1 : ∀ t, Steps p.tables e below (s₁.setTop (mkF m 3 #[rv r0, rv r0, .unset, .unset, .unset] [(.ref r0)])) t → Steps p.tables e below (s₁.setTop (entryFrame m #[(.ref r0)] 5)) t := by
    intro t kt
    refine pre0 _ ?_
    show Steps p.tables e below (s₁.setTop (mkF m 0 #[rv r0, .unset, .unset, .unset, .unset] [])) _
    refine XS.aloadN X0.here hx rfl (hb hby d8_0) rfl rfl ?_
    refine XS.astoreN X0.here hx rfl (hb hby d8_1) rfl rfl (l' := #[rv r0, rv r0, .unset, .unset, .unset]) rfl ?_
    refine XS.aloadN X0.here hx rfl (hb hby d8_2) rfl rfl ?_
    exact kt
  obtain ⟨b2, T2, h2, k2, vb2, kb2, X2, e2, E2, hS2, hk2, hZ, hown, Ex2, Fc2, Fv2, Vl2, -, -, -, -, -, st2⟩ := ldcCH (s := s) (vm0 := s.vm) X0 hx hZ hown (hw _ (List.mem_of_getElem? (i := 37) rfl)) (own_wS hw) e0 hS0 (Nat.le_refl _) (own_EW hw) (List.mem_of_getElem? (i := 0) rfl) hH (vs := [(.int (42 : Int32)), (.int (42 : Int32))]) (z := (2 : Int32)) ⟨by decide +kernel, by first | rfl | decide +kernel⟩ (by decide) (by decide) (g := (mkF m 3 #[rv r0, rv r0, .unset, .unset, .unset] [(.ref r0)])) rfl (hb hby d8_3) (n := 8) (by decide +kernel) (by decide) (by decide) (by decide)
  have K2 : Keep h0 h2 [] := (Keep.refl h0 []).ext E2
  have pre3 : ∀ t, Steps p.tables e below (T2.setTop (mkF m 5 #[rv r0, rv r0, .unset, .unset, .unset] [(.ref b2), (.ref r0)])) t → Steps p.tables e below (s₁.setTop (entryFrame m #[(.ref r0)] 5)) t := by
    intro t kt
    refine pre1 _ ?_
    show Steps p.tables e below (s₁.setTop (mkF m 3 #[rv r0, rv r0, .unset, .unset, .unset] [(.ref r0)])) _
    refine st2 _ ?_
    exact kt
  obtain ⟨cq4, kq4, q4a, q4b, q4c⟩ := isOf hZ e2 (E_r0.ext E2)
  obtain ⟨_, _, ⟨T4, L4, k4, n4⟩, -, X4, ⟨Lc4, hQ4, l4, y4, z4⟩, st4⟩ := X2.virtualBack hx (y := (⟨"java/lang/String", "contains", "(Ljava/lang/CharSequence;)Z"⟩ : MethodName)) (z := (⟨"java/lang/String", "contains", "(Ljava/lang/CharSequence;)Z"⟩ : MethodName)) hown (mvT hZ (hw _ (List.mem_of_getElem? (i := 40) rfl))) (mvT hZ (hw _ (List.mem_of_getElem? (i := 41) rfl))) (notFace_of_selects (args := #[]) (mvT hZ (hw _ (List.mem_of_getElem? (i := 43) rfl)))) (mvT hZ (hw _ (List.mem_of_getElem? (i := 43) rfl))) (mvT hZ (hw _ (List.mem_of_getElem? (i := 42) rfl))) (by decide) (backOf (W := 0) (rm9 l Z a0 hw [] r0 b2 va kc ch vb2 kb2 cs h2 n0 (Nat.le_trans Z0 K2.1) (F_value_r0.ext E2) (F_coder_r0.ext E2) (E_r0.ext E2) (V_va.ext E2) Fv2 Fc2 Ex2 Vl2 (O0.keep K2 all0) S_cs hcs) hZ (hw _ (List.mem_of_getElem? (i := 44) rfl)) (hw _ (List.mem_of_getElem? (i := 7) rfl)) (by decide) (by decide)) q4a q4c (g := (mkF m 5 #[rv r0, rv r0, .unset, .unset, .unset] [(.ref b2), (.ref r0)])) rfl (by rw [hml]; rfl) (Steps.refl _) (argsL := [(.ref b2)]) (rest := []) (lenOf pd30 rfl) rfl (by show 2 * 0 + _ ≤ _; exact Nat.le_of_eq rfl) (hb hby d8_5) (fun _ _ => ⟨rfl, e2, (by decide : 2 + 0 ≤ _), (by decide : 12 + 0 ≤ _)⟩)
  dsimp only [Pt.U, Pt.locs, Pt.cells, Pt.slots] at X4 l4 y4 z4 st4 hQ4
  subst l4 y4 z4
  obtain ⟨rfl, N4q, hh4⟩ := hQ4
  have N4 := Fr.app N0 N4q
  have pre5 : ∀ t, Steps p.tables e below (T4.setTop (mkF m 77 #[rv r0, rv r0, .unset, .unset, .unset] [])) t → Steps p.tables e below (s₁.setTop (entryFrame m #[(.ref r0)] 5)) t := by
    intro t kt
    refine pre3 _ ?_
    show Steps p.tables e below (T2.setTop (mkF m 5 #[rv r0, rv r0, .unset, .unset, .unset] [(.ref b2), (.ref r0)])) _
    refine st4.trans ?_
    show Steps p.tables e below (T4.setTop (mkF m 8 #[rv r0, rv r0, .unset, .unset, .unset] [(.int (0 : Int32))])) _
    refine XS.ifYes X4.here hx rfl (pc0 := 8) (pc' := 77) rfl (hb hby d8_8) rfl ((if0 _ _).trans (teq (by decide)).1) (by decide) (by decide) ?_
    exact kt
  obtain ⟨T6, h6, X6, e6, E6, A6, D6, -, st6⟩ := newO X4 hx hZ hown (hw _ (List.mem_of_getElem? (i := 75) rfl)) (hw _ (List.mem_of_getElem? (i := 76) rfl)) (hw _ (List.mem_of_getElem? (i := 3) rfl)) hh4 (g := (mkF m 77 #[rv r0, rv r0, .unset, .unset, .unset] [])) rfl (hb hby d8_77) (by decide) (by decide)
  obtain ⟨b6, g6⟩ : ∃ z, z = h2.size := ⟨_, rfl⟩
  rw [← g6] at A6 D6 st6
  have g_b6 : n0 ≤ b6 := Nat.le_trans (Nat.le_trans Z0 K2.1) (Nat.le_of_eq g6.symm)
  have sz_b6 : h0.size ≤ b6 := Nat.le_trans K2.1 (Nat.le_of_eq g6.symm)
  have F_pattern_b6 : Fld Z h6 b6 "com/example/subject/subject/model/Wildcards" "pattern" "Ljava/lang/String;" .null := D6 (Or.inr (hw _ (List.mem_of_getElem? (i := 82) rfl))) (ty := (.object "java/lang/String")) (by decide)
  have F_firstStar_b6 : Fld Z h6 b6 "com/example/subject/subject/model/Wildcards" "firstStar" "I" (.int (0 : Int32)) := D6 (Or.inr (hw _ (List.mem_of_getElem? (i := 115) rfl))) (ty := .int) (by decide)
  have F_lastStar_b6 : Fld Z h6 b6 "com/example/subject/subject/model/Wildcards" "lastStar" "I" (.int (0 : Int32)) := D6 (Or.inr (hw _ (List.mem_of_getElem? (i := 130) rfl))) (ty := .int) (by decide)
  have F_places_b6 : Fld Z h6 b6 "com/example/subject/subject/model/Wildcards" "places" "Lcom/example/subject/subject/model/Wildcards$Places;" .null := D6 (Or.inr (hw _ (List.mem_of_getElem? (i := 183) rfl))) (ty := (.object "com/example/subject/subject/model/Wildcards$Places")) (by decide)
  have K6 : Keep h0 h6 [] := K2.ext E6
  have pre7 : ∀ t, Steps p.tables e below (T6.setTop (mkF m 82 #[rv r0, rv r0, .unset, .unset, .unset] [(.ref r0), (.ref b6), (.ref b6)])) t → Steps p.tables e below (s₁.setTop (entryFrame m #[(.ref r0)] 5)) t := by
    intro t kt
    refine pre5 _ ?_
    show Steps p.tables e below (T4.setTop (mkF m 77 #[rv r0, rv r0, .unset, .unset, .unset] [])) _
    refine st6 _ ?_
    show Steps p.tables e below (T6.setTop (mkF m 80 #[rv r0, rv r0, .unset, .unset, .unset] [(.ref b6)])) _
    refine XS.dup X6.here hx rfl (hb hby d8_80) rfl rfl ?_
    refine XS.aloadN X6.here hx rfl (hb hby d8_81) rfl rfl ?_
    exact kt
  obtain ⟨_, _, ⟨T8, L8, k8, n8⟩, -, X8, ⟨Lc8, hQ8, l8, y8, z8⟩, st8⟩ := X6.specialBack hx (y := (⟨"com/example/subject/subject/model/Wildcards", "<init>", "(Ljava/lang/String;)V"⟩ : MethodName)) rfl hown (mvT hZ (hw _ (List.mem_of_getElem? (i := 77) rfl))) (mvT hZ (hw _ (List.mem_of_getElem? (i := 78) rfl))) (mvT hZ (hw _ (List.mem_of_getElem? (i := 79) rfl))) (by decide) (backOf (W := 1) (rm16 l Z a0 hw [] b6 r0 va kc ch ix cs fm h6 n0 (Nat.le_trans Z0 K6.1) F_pattern_b6 F_firstStar_b6 F_lastStar_b6 F_places_b6 A6 g_b6 ((F_value_r0.ext E2).ext E6) ((F_coder_r0.ext E2).ext E6) ((E_r0.ext E2).ext E6) ((V_va.ext E2).ext E6) (O0.keep K6 all0) S_cs hcs S_fm hr_fm hok_ch hix) hZ (hw _ (List.mem_of_getElem? (i := 79) rfl)) (hw _ (List.mem_of_getElem? (i := 3) rfl)) (by decide) (by decide)) (g := (mkF m 82 #[rv r0, rv r0, .unset, .unset, .unset] [(.ref r0), (.ref b6), (.ref b6)])) rfl (by rw [hml]; rfl) (Steps.refl _) (a := b6) (argsL := [(.ref r0)]) (rest := [(.ref b6)]) (lenOf pd29 rfl) rfl (by show 2 * 0 + _ ≤ _; exact Nat.le_of_eq rfl) (hb hby d8_82) (fun _ _ => ⟨rfl, e6, (by decide : 3 + 4 ≤ _), (by decide : 16 + 9 ≤ _)⟩)
  dsimp only [Pt.U, Pt.locs, Pt.cells, Pt.slots] at X8 l8 y8 z8 st8 hQ8
  subst l8 y8 z8
  obtain ⟨rfl, N8q, Kc8, Fp8, Ff8, Fl8⟩ := hQ8
  have N8 := Fr.app N4 N8q
  have K8 : Keep h0 T8.heap [] := K6.trans Kc8 (allS (Or.inr sz_b6) all0)
  have pre9 : ∀ t, Steps p.tables e below (T8.setTop (mkF m 85 #[rv r0, rv r0, .unset, .unset, .unset] [(.ref b6)])) t → Steps p.tables e below (s₁.setTop (entryFrame m #[(.ref r0)] 5)) t := by
    intro t kt
    refine pre7 _ ?_
    show Steps p.tables e below (T6.setTop (mkF m 82 #[rv r0, rv r0, .unset, .unset, .unset] [(.ref r0), (.ref b6), (.ref b6)])) _
    refine st8.trans ?_
    exact kt
  obtain ⟨fs, hr, hrun, hended, hRW⟩ := Jvm.Stand.leaveW (s := s) (vm₁ := T2.vm) X8 hS2 (Nat.le_trans (Nat.le_trans hk2 E6.1) Kc8.1) (v := some (.ref b6)) (fun h => by rw [Bd.returns] at h; cases h)
  refine ⟨_, _, pre9 _ ?_, hrun, hended, _, _, rfl, ?_, hRW.1, hRW.2.1, hRW.2.2.1, hRW.2.2.2.mono (by decide) (by decide)⟩
  · show Steps p.tables e below (T8.setTop (mkF m 85 #[rv r0, rv r0, .unset, .unset, .unset] [(.ref b6)])) _
    jvm_step X8.here [X8.here.top, hx, (hb hby d8_85), X8.method', Bd.returns, Value.isRef, FieldType.isReference]
    first | (intro acts; rw [hr _ acts rfl rfl rfl]) | rw [hr _ _ rfl rfl rfl]
    exact Steps.refl _
  · show Q8 Z r0 va kc ch ix cs fm h0 n0 _ T8.heap _
    exact ⟨b6, rfl, N8, K8, sz_b6, (A6.keep Kc8), Fp8, Ff8, Fl8⟩
def own_fit (ch : Int32) : Int32 := if ch = (63 : Int32) then 1 else 0
theorem d36_0 : decode prog_51_method_12_code 0 = .ok (.iload_n 1, 1) := by decide +kernel
theorem d36_1 : decode prog_51_method_12_code 1 = .ok (.istore 5, 2) := by decide +kernel
theorem d36_3 : decode prog_51_method_12_code 3 = .ok (.iload 5, 2) := by decide +kernel
theorem d36_5 : decode prog_51_method_12_code 5 = .ok (.iload_n 2, 1) := by decide +kernel
theorem d36_6 : decode prog_51_method_12_code 6 = .ok (.if_icmp .ge 45, 3) := by decide +kernel
theorem d36_9 : decode prog_51_method_12_code 9 = .ok (.aload_n 0, 1) := by decide +kernel
theorem d36_10 : decode prog_51_method_12_code 10 = .ok (.getfield 7, 3) := by decide +kernel
theorem d36_13 : decode prog_51_method_12_code 13 = .ok (.iload 5, 2) := by decide +kernel
theorem d36_15 : decode prog_51_method_12_code 15 = .ok (.invokevirtual 51, 3) := by decide +kernel
theorem d36_18 : decode prog_51_method_12_code 18 = .ok (.istore 6, 2) := by decide +kernel
theorem d36_20 : decode prog_51_method_12_code 20 = .ok (.iload 6, 2) := by decide +kernel
theorem d36_22 : decode prog_51_method_12_code 22 = .ok (.bipush 63, 2) := by decide +kernel
theorem d36_24 : decode prog_51_method_12_code 24 = .ok (.if_icmp .eq 21, 3) := by decide +kernel
theorem d36_45 : decode prog_51_method_12_code 45 = .ok (.iinc 5 1, 3) := by decide +kernel
theorem d36_48 : decode prog_51_method_12_code 48 = .ok (.goto (-45), 3) := by decide +kernel
theorem d36_51 : decode prog_51_method_12_code 51 = .ok (.iconst 1, 1) := by decide +kernel
theorem d36_52 : decode prog_51_method_12_code 52 = .ok (.ireturn, 1) := by decide +kernel
theorem d36_27 : decode prog_51_method_12_code 27 = .ok (.iload 6, 2) := by decide +kernel
theorem d36_29 : decode prog_51_method_12_code 29 = .ok (.aload_n 3, 1) := by decide +kernel
theorem d36_30 : decode prog_51_method_12_code 30 = .ok (.iload 4, 2) := by decide +kernel
theorem d36_32 : decode prog_51_method_12_code 32 = .ok (.iload 5, 2) := by decide +kernel
theorem d36_34 : decode prog_51_method_12_code 34 = .ok (.iadd, 1) := by decide +kernel
theorem d36_35 : decode prog_51_method_12_code 35 = .ok (.iload_n 1, 1) := by decide +kernel
theorem d36_36 : decode prog_51_method_12_code 36 = .ok (.isub, 1) := by decide +kernel
theorem d36_37 : decode prog_51_method_12_code 37 = .ok (.invokevirtual 51, 3) := by decide +kernel
theorem d36_40 : decode prog_51_method_12_code 40 = .ok (.if_icmp .eq 5, 3) := by decide +kernel
theorem d36_43 : decode prog_51_method_12_code 43 = .ok (.iconst 0, 1) := by decide +kernel
theorem d36_44 : decode prog_51_method_12_code 44 = .ok (.ireturn, 1) := by decide +kernel
theorem ef_36a (m : MethodId) (x0 : Addr) (x1 : Int32) (x2 : Int32) (x3 : Addr) (x4 : Int32) : entryFrame m #[(.ref x0), (.int x1), (.int x2), (.ref x3), (.int x4)] 7 = mkF m 0 #[.val (.ref x0), .val (.int x1), .val (.int x2), .val (.ref x3), .val (.int x4), .unset, .unset] [] := by first | (simp [entryFrame, mkF, argsToLocals, Value.category]; done) | rfl
def Q36a (Z : State) (r0 : Addr) (r3 : Addr) (ps : Addr) (va : Addr) (kc : ClassId) (ch : Int32) (vb : Addr) (kd : ClassId) (dh : Int32) (cs : Int32) (fm : Value) (h0 : Heap) (n0 : Nat) (v : Option Value) (h : Heap) (L : List Loc) : Prop := v = some (.int (own_fit ch)) ∧ Fr n0 L ∧ h = h0
set_option maxRecDepth 65536 in
set_option maxHeartbeats 40000000 in
theorem rm36a (l : Launch) (Z : State) (a0 : Array Value) (hw : ∀ d ∈ tables_1, d.before a0 Z = true) (ws : List Jvm.Cond) (r0 : Addr) (r3 : Addr) (ps : Addr) (va : Addr) (kc : ClassId) (ch : Int32) (vb : Addr) (kd : ClassId) (dh : Int32) (cs : Int32) (fm : Value) (h0 : Heap) (n0 : Nat) (Z0 : n0 ≤ h0.size) (F_pattern_r0 : Fld Z h0 r0 "com/example/subject/subject/model/Wildcards" "pattern" "Ljava/lang/String;" (.ref ps)) (F_firstStar_r0 : Fld Z h0 r0 "com/example/subject/subject/model/Wildcards" "firstStar" "I" (.int (-1 : Int32))) (F_lastStar_r0 : Fld Z h0 r0 "com/example/subject/subject/model/Wildcards" "lastStar" "I" (.int (-1 : Int32))) (E_r0 : Exa Z h0 r0 "com/example/subject/subject/model/Wildcards") (F_value_ps : Fld Z h0 ps "java/lang/String" "value" "[B" (.ref va)) (F_coder_ps : Fld Z h0 ps "java/lang/String" "coder" "B" (.int (0 : Int32))) (E_ps : Exa Z h0 ps "java/lang/String") (V_va : Arv Z h0 va kc .byte (1 : Int32) [(.int ch)] (.int (0 : Int32))) (F_value_r3 : Fld Z h0 r3 "java/lang/String" "value" "[B" (.ref vb)) (F_coder_r3 : Fld Z h0 r3 "java/lang/String" "coder" "B" (.int (0 : Int32))) (E_r3 : Exa Z h0 r3 "java/lang/String") (V_vb : Arv Z h0 vb kd .byte (1 : Int32) [(.int dh)] (.int (0 : Int32))) (O0 : Old Z n0 h0) (S_cs : Sta Z Z.heap "java/lang/String" "COMPACT_STRINGS" "Z" (.int cs)) (hcs : ¬ (cs = (0 : Int32))) (S_fm : Sta Z Z.heap "jdk/internal/util/Preconditions" "SIOOBE_FORMATTER" "Ljava/util/function/BiFunction;" fm) (hr_fm : fm.isRef = true) (hok_ch : own_ok ch) (hok_dh : own_ok dh) (hcd : ¬ (ch = dh)) :
    MetFree l (⟨"com/example/subject/subject/model/Wildcards", "fitsAt", "(IILjava/lang/String;I)Z"⟩ : MethodName) (head1 (Jvm.Cond.code (⟨"com/example/subject/subject/model/Wildcards", "fitsAt", "(IILjava/lang/String;I)Z"⟩ : MethodName) prog_51_method_12_code 7 (some .boolean) :: ws) ({ frames := 4, cells := 0, slots := 0, locals := 54 } : Room)) (fun a U => a = #[(.ref r0), (.int (0 : Int32)), (.int (1 : Int32)), (.ref r3), (.int (0 : Int32))] ∧ Z.Warmed39 U.vm ∧ U.heap = h0) (fun _ _ _ _ _ => True) (fun _ U o U' => ∃ v L, o = .returned v ∧ Q36a Z r0 r3 ps va kc ch vb kd dh cs fm h0 n0 v U'.heap L ∧ FrameEnd U o U' L ({ frames := 4, cells := 0, slots := 0, locals := 54 } : Room).cells ({ frames := 4, cells := 0, slots := 0, locals := 54 } : Room).slots) := by
  refine MetFree.of_bodySF (plainFor_of_name pn0) hisR ?_
  intro p e s m args below meth c s₁ Bd hml0 hP hK
  obtain ⟨rfl, hZ, hh⟩ := hP
  have hx := Bd.exec
  have hby := Bd.bytes
  have hml : c.maxLocals = 7 := hml0
  have hown : s.vm.findClass "com/example/subject/subject/model/Wildcards" = some m.cls := findClass_of_methodNamed Bd.named
  have hnm := (name_of_methodNamed Bd.named Bd.method).1
  have X0 : Stand p l e ({ frames := 4, cells := 0, slots := 0, locals := 54 } : Room) s m #[(.ref r0), (.int (0 : Int32)), (.int (1 : Int32)), (.ref r3), (.int (0 : Int32))] below meth c s₁ [] 0 0 := Stand.of_body Bd
  have e0 : s₁.heap = h0 := by rw [← hh, Bd.state]; rfl
  have N0 := Fr.nil n0
  have pre0 : ∀ t, Steps p.tables e below (s₁.setTop (mkF m 0 #[rv r0, iv (0 : Int32), iv (1 : Int32), rv r3, iv (0 : Int32), .unset, .unset] [])) t → Steps p.tables e below (s₁.setTop (entryFrame m #[(.ref r0), (.int (0 : Int32)), (.int (1 : Int32)), (.ref r3), (.int (0 : Int32))] 7)) t := fun t k => castTop (ef_36a m r0 (0 : Int32) (1 : Int32) r3 (0 : Int32)) k
  have pre1 : ∀ t, Steps p.tables e below (s₁.setTop (mkF m 10 #[rv r0, iv (0 : Int32), iv (1 : Int32), rv r3, iv (0 : Int32), iv (0 : Int32), .unset] [(.ref r0)])) t → Steps p.tables e below (s₁.setTop (entryFrame m #[(.ref r0), (.int (0 : Int32)), (.int (1 : Int32)), (.ref r3), (.int (0 : Int32))] 7)) t := by
    intro t kt
    refine pre0 _ ?_
    show Steps p.tables e below (s₁.setTop (mkF m 0 #[rv r0, iv (0 : Int32), iv (1 : Int32), rv r3, iv (0 : Int32), .unset, .unset] [])) _
    refine XS.iloadN X0.here hx rfl (hb hby d36_0) rfl ?_
    refine XS.istore X0.here hx rfl (hb hby d36_1) rfl (l' := #[rv r0, iv (0 : Int32), iv (1 : Int32), rv r3, iv (0 : Int32), iv (0 : Int32), .unset]) rfl ?_
    refine XS.iload X0.here hx rfl (hb hby d36_3) rfl ?_
    refine XS.iloadN X0.here hx rfl (hb hby d36_5) rfl ?_
    refine XS.icmpNo X0.here hx rfl (hb hby d36_6) rfl (tlt (by decide)).2.1 ?_
    refine XS.aloadN X0.here hx rfl (hb hby d36_9) rfl rfl ?_
    exact kt
  obtain ⟨T2, X2, e2, st2⟩ := getF X0 hx hZ hown (host := "") (Or.inl (hw _ (List.mem_of_getElem? (i := 81) rfl))) Via.refl e0 F_pattern_r0 (g := (mkF m 10 #[rv r0, iv (0 : Int32), iv (1 : Int32), rv r3, iv (0 : Int32), iv (0 : Int32), .unset] [(.ref r0)])) rfl rfl (hb hby d36_10)
  have pre3 : ∀ t, Steps p.tables e below (T2.setTop (mkF m 15 #[rv r0, iv (0 : Int32), iv (1 : Int32), rv r3, iv (0 : Int32), iv (0 : Int32), .unset] [(.int (0 : Int32)), (.ref ps)])) t → Steps p.tables e below (s₁.setTop (entryFrame m #[(.ref r0), (.int (0 : Int32)), (.int (1 : Int32)), (.ref r3), (.int (0 : Int32))] 7)) t := by
    intro t kt
    refine pre1 _ ?_
    show Steps p.tables e below (s₁.setTop (mkF m 10 #[rv r0, iv (0 : Int32), iv (1 : Int32), rv r3, iv (0 : Int32), iv (0 : Int32), .unset] [(.ref r0)])) _
    refine st2 _ ?_
    show Steps p.tables e below (T2.setTop (mkF m 13 #[rv r0, iv (0 : Int32), iv (1 : Int32), rv r3, iv (0 : Int32), iv (0 : Int32), .unset] [(.ref ps)])) _
    refine XS.iload X2.here hx rfl (hb hby d36_13) rfl ?_
    exact kt
  obtain ⟨cq4, kq4, q4a, q4b, q4c⟩ := isOf hZ e2 E_ps
  obtain ⟨_, _, ⟨T4, L4, k4, n4⟩, -, X4, ⟨Lc4, hQ4, l4, y4, z4⟩, st4⟩ := X2.virtualBack hx (y := (⟨"java/lang/String", "charAt", "(I)C"⟩ : MethodName)) (z := (⟨"java/lang/String", "charAt", "(I)C"⟩ : MethodName)) hown (mvT hZ (hw _ (List.mem_of_getElem? (i := 194) rfl))) (mvT hZ (hw _ (List.mem_of_getElem? (i := 145) rfl))) (notFace_of_selects (args := #[]) (mvT hZ (hw _ (List.mem_of_getElem? (i := 147) rfl)))) (mvT hZ (hw _ (List.mem_of_getElem? (i := 147) rfl))) (mvT hZ (hw _ (List.mem_of_getElem? (i := 146) rfl))) (by decide) (backOf (W := 0) (rm29 l Z a0 hw [] ps va kc ch cs fm h0 n0 (Nat.le_trans Z0 (Keep.refl h0 []).1) F_value_ps F_coder_ps E_ps V_va (O0.keep (Keep.refl h0 []) all0) S_cs hcs S_fm hr_fm hok_ch) hZ (hw _ (List.mem_of_getElem? (i := 148) rfl)) (hw _ (List.mem_of_getElem? (i := 7) rfl)) (by decide) (by decide)) q4a q4c (g := (mkF m 15 #[rv r0, iv (0 : Int32), iv (1 : Int32), rv r3, iv (0 : Int32), iv (0 : Int32), .unset] [(.int (0 : Int32)), (.ref ps)])) rfl (by rw [hml]; rfl) (Steps.refl _) (argsL := [(.int (0 : Int32))]) (rest := []) (lenOf pd26 rfl) rfl (by show 2 * 0 + _ ≤ _; exact Nat.le_of_eq rfl) (hb hby d36_15) (fun _ _ => ⟨rfl, e2, (by decide : 0 + 0 ≤ _), (by decide : 0 + 0 ≤ _)⟩)
  dsimp only [Pt.U, Pt.locs, Pt.cells, Pt.slots] at X4 l4 y4 z4 st4 hQ4
  subst l4 y4 z4
  obtain ⟨rfl, N4q, hh4⟩ := hQ4
  have N4 := Fr.app N0 N4q
  have pre5 : ∀ t, Steps p.tables e below (T4.setTop (mkF m 24 #[rv r0, iv (0 : Int32), iv (1 : Int32), rv r3, iv (0 : Int32), iv (0 : Int32), iv ch] [(.int (63 : Int32)), (.int ch)])) t → Steps p.tables e below (s₁.setTop (entryFrame m #[(.ref r0), (.int (0 : Int32)), (.int (1 : Int32)), (.ref r3), (.int (0 : Int32))] 7)) t := by
    intro t kt
    refine pre3 _ ?_
    show Steps p.tables e below (T2.setTop (mkF m 15 #[rv r0, iv (0 : Int32), iv (1 : Int32), rv r3, iv (0 : Int32), iv (0 : Int32), .unset] [(.int (0 : Int32)), (.ref ps)])) _
    refine st4.trans ?_
    show Steps p.tables e below (T4.setTop (mkF m 18 #[rv r0, iv (0 : Int32), iv (1 : Int32), rv r3, iv (0 : Int32), iv (0 : Int32), .unset] [(.int ch)])) _
    refine XS.istore X4.here hx rfl (hb hby d36_18) rfl (l' := #[rv r0, iv (0 : Int32), iv (1 : Int32), rv r3, iv (0 : Int32), iv (0 : Int32), iv ch]) rfl ?_
    refine XS.iload X4.here hx rfl (hb hby d36_20) rfl ?_
    refine XS.bipush X4.here hx rfl (hb hby d36_22) ?_
    exact kt
  by_cases hc24 : ch = (63 : Int32)
  · have pre6 : ∀ t, Steps p.tables e below (T4.setTop (mkF m 52 #[rv r0, iv (0 : Int32), iv (1 : Int32), rv r3, iv (0 : Int32), iv (1 : Int32), iv ch] [(.int (1 : Int32))])) t → Steps p.tables e below (s₁.setTop (entryFrame m #[(.ref r0), (.int (0 : Int32)), (.int (1 : Int32)), (.ref r3), (.int (0 : Int32))] 7)) t := by
      intro t kt
      refine pre5 _ ?_
      show Steps p.tables e below (T4.setTop (mkF m 24 #[rv r0, iv (0 : Int32), iv (1 : Int32), rv r3, iv (0 : Int32), iv (0 : Int32), iv ch] [(.int (63 : Int32)), (.int ch)])) _
      refine XS.icmpYes X4.here hx rfl (pc0 := 24) (pc' := 45) rfl (hb hby d36_24) rfl (teq hc24).1 (by decide) (by decide) ?_
      refine XS.iinc X4.here hx rfl (hb hby d36_45) rfl (l' := #[rv r0, iv (0 : Int32), iv (1 : Int32), rv r3, iv (0 : Int32), iv ((0 : Int32) + (1 : Int32)), iv ch]) rfl ?_
      show Steps p.tables e below (T4.setTop (mkF m 48 #[rv r0, iv (0 : Int32), iv (1 : Int32), rv r3, iv (0 : Int32), iv ((0 : Int32) + (1 : Int32)), iv ch] [])) _
      rw [show ((0 : Int32) + (1 : Int32)) = (1 : Int32) from (by decide)]
      show Steps p.tables e below (T4.setTop (mkF m 48 #[rv r0, iv (0 : Int32), iv (1 : Int32), rv r3, iv (0 : Int32), iv (1 : Int32), iv ch] [])) _
      refine XS.goto X4.here hx rfl (pc0 := 48) (pc' := 3) rfl (hb hby d36_48) (by decide) (by decide) ?_
      refine XS.iload X4.here hx rfl (hb hby d36_3) rfl ?_
      refine XS.iloadN X4.here hx rfl (hb hby d36_5) rfl ?_
      refine XS.icmpYes X4.here hx rfl (pc0 := 6) (pc' := 51) rfl (hb hby d36_6) rfl (flt (by decide)).2.1 (by decide) (by decide) ?_
      refine XS.iconst X4.here hx rfl (hb hby d36_51) ?_
      exact kt
    obtain ⟨fs, hr, hrun, hended, hW, hsame⟩ := X4.leave (v := some (.int (1 : Int32))) (fun h => by rw [Bd.returns] at h; cases h)
    refine ⟨_, _, pre6 _ ?_, hrun, hended, _, _, rfl, ?_, ⟨_, rfl⟩, hW, hsame.mono (by decide) (by decide)⟩
    · show Steps p.tables e below (T4.setTop (mkF m 52 #[rv r0, iv (0 : Int32), iv (1 : Int32), rv r3, iv (0 : Int32), iv (1 : Int32), iv ch] [(.int (1 : Int32))])) _
      exact retN X4 hx (t := .boolean) Bd.returns (by simp) (hb hby d36_52) hr
    · show Q36a Z r0 r3 ps va kc ch vb kd dh cs fm h0 n0 _ T4.heap _
      rw [hh4]
      exact ⟨congrArg (fun z => some (Value.int z)) (if_pos hc24).symm, N4, rfl⟩
  · have pre7 : ∀ t, Steps p.tables e below (T4.setTop (mkF m 37 #[rv r0, iv (0 : Int32), iv (1 : Int32), rv r3, iv (0 : Int32), iv (0 : Int32), iv ch] [(.int (0 : Int32)), (.ref r3), (.int ch)])) t → Steps p.tables e below (s₁.setTop (entryFrame m #[(.ref r0), (.int (0 : Int32)), (.int (1 : Int32)), (.ref r3), (.int (0 : Int32))] 7)) t := by
      intro t kt
      refine pre5 _ ?_
      show Steps p.tables e below (T4.setTop (mkF m 24 #[rv r0, iv (0 : Int32), iv (1 : Int32), rv r3, iv (0 : Int32), iv (0 : Int32), iv ch] [(.int (63 : Int32)), (.int ch)])) _
      refine XS.icmpNo X4.here hx rfl (hb hby d36_24) rfl (feq hc24).1 ?_
      refine XS.iload X4.here hx rfl (hb hby d36_27) rfl ?_
      refine XS.aloadN X4.here hx rfl (hb hby d36_29) rfl rfl ?_
      refine XS.iload X4.here hx rfl (hb hby d36_30) rfl ?_
      refine XS.iload X4.here hx rfl (hb hby d36_32) rfl ?_
      refine XS.iadd X4.here hx rfl (hb hby d36_34) rfl ?_
      show Steps p.tables e below (T4.setTop (mkF m 35 #[rv r0, iv (0 : Int32), iv (1 : Int32), rv r3, iv (0 : Int32), iv (0 : Int32), iv ch] [(.int ((0 : Int32) + (0 : Int32))), (.ref r3), (.int ch)])) _
      rw [show ((0 : Int32) + (0 : Int32)) = (0 : Int32) from (by decide)]
      show Steps p.tables e below (T4.setTop (mkF m 35 #[rv r0, iv (0 : Int32), iv (1 : Int32), rv r3, iv (0 : Int32), iv (0 : Int32), iv ch] [(.int (0 : Int32)), (.ref r3), (.int ch)])) _
      refine XS.iloadN X4.here hx rfl (hb hby d36_35) rfl ?_
      refine XS.isub X4.here hx rfl (hb hby d36_36) rfl ?_
      show Steps p.tables e below (T4.setTop (mkF m 37 #[rv r0, iv (0 : Int32), iv (1 : Int32), rv r3, iv (0 : Int32), iv (0 : Int32), iv ch] [(.int ((0 : Int32) - (0 : Int32))), (.ref r3), (.int ch)])) _
      rw [show ((0 : Int32) - (0 : Int32)) = (0 : Int32) from (by decide)]
      exact kt
    obtain ⟨cq8, kq8, q8a, q8b, q8c⟩ := isOf hZ hh4 E_r3
    obtain ⟨_, _, ⟨T8, L8, k8, n8⟩, -, X8, ⟨Lc8, hQ8, l8, y8, z8⟩, st8⟩ := X4.virtualBack hx (y := (⟨"java/lang/String", "charAt", "(I)C"⟩ : MethodName)) (z := (⟨"java/lang/String", "charAt", "(I)C"⟩ : MethodName)) hown (mvT hZ (hw _ (List.mem_of_getElem? (i := 194) rfl))) (mvT hZ (hw _ (List.mem_of_getElem? (i := 145) rfl))) (notFace_of_selects (args := #[]) (mvT hZ (hw _ (List.mem_of_getElem? (i := 147) rfl)))) (mvT hZ (hw _ (List.mem_of_getElem? (i := 147) rfl))) (mvT hZ (hw _ (List.mem_of_getElem? (i := 146) rfl))) (by decide) (backOf (W := 1) (rm29 l Z a0 hw [] r3 vb kd dh cs fm h0 n0 (Nat.le_trans Z0 (Keep.refl h0 []).1) F_value_r3 F_coder_r3 E_r3 V_vb (O0.keep (Keep.refl h0 []) all0) S_cs hcs S_fm hr_fm hok_dh) hZ (hw _ (List.mem_of_getElem? (i := 148) rfl)) (hw _ (List.mem_of_getElem? (i := 7) rfl)) (by decide) (by decide)) q8a q8c (g := (mkF m 37 #[rv r0, iv (0 : Int32), iv (1 : Int32), rv r3, iv (0 : Int32), iv (0 : Int32), iv ch] [(.int (0 : Int32)), (.ref r3), (.int ch)])) rfl (by rw [hml]; rfl) (Steps.refl _) (argsL := [(.int (0 : Int32))]) (rest := [(.int ch)]) (lenOf pd26 rfl) rfl (by show 2 * 0 + _ ≤ _; exact Nat.le_of_eq rfl) (hb hby d36_37) (fun _ _ => ⟨rfl, hh4, (by decide : 0 + 0 ≤ _), (by decide : 0 + 0 ≤ _)⟩)
    dsimp only [Pt.U, Pt.locs, Pt.cells, Pt.slots] at X8 l8 y8 z8 st8 hQ8
    subst l8 y8 z8
    obtain ⟨rfl, N8q, hh8⟩ := hQ8
    have N8 := Fr.app N4 N8q
    have pre10 : ∀ t, Steps p.tables e below (T8.setTop (mkF m 40 #[rv r0, iv (0 : Int32), iv (1 : Int32), rv r3, iv (0 : Int32), iv (0 : Int32), iv ch] [(.int dh), (.int ch)])) t → Steps p.tables e below (s₁.setTop (entryFrame m #[(.ref r0), (.int (0 : Int32)), (.int (1 : Int32)), (.ref r3), (.int (0 : Int32))] 7)) t := by
      intro t kt
      refine pre7 _ ?_
      show Steps p.tables e below (T4.setTop (mkF m 37 #[rv r0, iv (0 : Int32), iv (1 : Int32), rv r3, iv (0 : Int32), iv (0 : Int32), iv ch] [(.int (0 : Int32)), (.ref r3), (.int ch)])) _
      refine st8.trans ?_
      exact kt
    have hc40_9 : ¬ (ch = dh) := hcd
    have pre11 : ∀ t, Steps p.tables e below (T8.setTop (mkF m 44 #[rv r0, iv (0 : Int32), iv (1 : Int32), rv r3, iv (0 : Int32), iv (0 : Int32), iv ch] [(.int (0 : Int32))])) t → Steps p.tables e below (s₁.setTop (entryFrame m #[(.ref r0), (.int (0 : Int32)), (.int (1 : Int32)), (.ref r3), (.int (0 : Int32))] 7)) t := by
      intro t kt
      refine pre10 _ ?_
      show Steps p.tables e below (T8.setTop (mkF m 40 #[rv r0, iv (0 : Int32), iv (1 : Int32), rv r3, iv (0 : Int32), iv (0 : Int32), iv ch] [(.int dh), (.int ch)])) _
      refine XS.icmpNo X8.here hx rfl (hb hby d36_40) rfl (feq hc40_9).1 ?_
      refine XS.iconst X8.here hx rfl (hb hby d36_43) ?_
      exact kt
    obtain ⟨fs, hr, hrun, hended, hW, hsame⟩ := X8.leave (v := some (.int (0 : Int32))) (fun h => by rw [Bd.returns] at h; cases h)
    refine ⟨_, _, pre11 _ ?_, hrun, hended, _, _, rfl, ?_, ⟨_, rfl⟩, hW, hsame.mono (by decide) (by decide)⟩
    · show Steps p.tables e below (T8.setTop (mkF m 44 #[rv r0, iv (0 : Int32), iv (1 : Int32), rv r3, iv (0 : Int32), iv (0 : Int32), iv ch] [(.int (0 : Int32))])) _
      exact retN X8 hx (t := .boolean) Bd.returns (by simp) (hb hby d36_44) hr
    · show Q36a Z r0 r3 ps va kc ch vb kd dh cs fm h0 n0 _ T8.heap _
      rw [hh8]
      exact ⟨congrArg (fun z => some (Value.int z)) (if_neg hc24).symm, N8, rfl⟩

theorem ef_36b (m : MethodId) (x0 : Addr) (x1 : Int32) (x2 : Int32) (x3 : Addr) (x4 : Int32) : entryFrame m #[(.ref x0), (.int x1), (.int x2), (.ref x3), (.int x4)] 7 = mkF m 0 #[.val (.ref x0), .val (.int x1), .val (.int x2), .val (.ref x3), .val (.int x4), .unset, .unset] [] := by first | (simp [entryFrame, mkF, argsToLocals, Value.category]; done) | rfl
def Q36b (Z : State) (r0 : Addr) (r3 : Addr) (ps : Addr) (va : Addr) (kc : ClassId) (ch : Int32) (vb : Addr) (kd : ClassId) (dh : Int32) (cs : Int32) (fm : Value) (h0 : Heap) (n0 : Nat) (v : Option Value) (h : Heap) (L : List Loc) : Prop := v = some (.int (1 : Int32)) ∧ Fr n0 L ∧ h = h0
set_option maxRecDepth 65536 in
set_option maxHeartbeats 40000000 in
theorem rm36b (l : Launch) (Z : State) (a0 : Array Value) (hw : ∀ d ∈ tables_1, d.before a0 Z = true) (ws : List Jvm.Cond) (r0 : Addr) (r3 : Addr) (ps : Addr) (va : Addr) (kc : ClassId) (ch : Int32) (vb : Addr) (kd : ClassId) (dh : Int32) (cs : Int32) (fm : Value) (h0 : Heap) (n0 : Nat) (Z0 : n0 ≤ h0.size) (F_pattern_r0 : Fld Z h0 r0 "com/example/subject/subject/model/Wildcards" "pattern" "Ljava/lang/String;" (.ref ps)) (F_firstStar_r0 : Fld Z h0 r0 "com/example/subject/subject/model/Wildcards" "firstStar" "I" (.int (0 : Int32))) (F_lastStar_r0 : Fld Z h0 r0 "com/example/subject/subject/model/Wildcards" "lastStar" "I" (.int (0 : Int32))) (E_r0 : Exa Z h0 r0 "com/example/subject/subject/model/Wildcards") (F_value_ps : Fld Z h0 ps "java/lang/String" "value" "[B" (.ref va)) (F_coder_ps : Fld Z h0 ps "java/lang/String" "coder" "B" (.int (0 : Int32))) (E_ps : Exa Z h0 ps "java/lang/String") (V_va : Arv Z h0 va kc .byte (1 : Int32) [(.int ch)] (.int (0 : Int32))) (F_value_r3 : Fld Z h0 r3 "java/lang/String" "value" "[B" (.ref vb)) (F_coder_r3 : Fld Z h0 r3 "java/lang/String" "coder" "B" (.int (0 : Int32))) (E_r3 : Exa Z h0 r3 "java/lang/String") (V_vb : Arv Z h0 vb kd .byte (1 : Int32) [(.int dh)] (.int (0 : Int32))) (O0 : Old Z n0 h0) (S_cs : Sta Z Z.heap "java/lang/String" "COMPACT_STRINGS" "Z" (.int cs)) (hcs : ¬ (cs = (0 : Int32))) (S_fm : Sta Z Z.heap "jdk/internal/util/Preconditions" "SIOOBE_FORMATTER" "Ljava/util/function/BiFunction;" fm) (hr_fm : fm.isRef = true) (hok_ch : own_ok ch) (hok_dh : own_ok dh) (hcd : ¬ (ch = dh)) :
    MetFree l (⟨"com/example/subject/subject/model/Wildcards", "fitsAt", "(IILjava/lang/String;I)Z"⟩ : MethodName) (head1 (Jvm.Cond.code (⟨"com/example/subject/subject/model/Wildcards", "fitsAt", "(IILjava/lang/String;I)Z"⟩ : MethodName) prog_51_method_12_code 7 (some .boolean) :: ws) ({ frames := 0, cells := 0, slots := 0, locals := 0 } : Room)) (fun a U => a = #[(.ref r0), (.int (0 : Int32)), (.int (0 : Int32)), (.ref r3), (.int (0 : Int32))] ∧ Z.Warmed39 U.vm ∧ U.heap = h0) (fun _ _ _ _ _ => True) (fun _ U o U' => ∃ v L, o = .returned v ∧ Q36b Z r0 r3 ps va kc ch vb kd dh cs fm h0 n0 v U'.heap L ∧ FrameEnd U o U' L ({ frames := 0, cells := 0, slots := 0, locals := 0 } : Room).cells ({ frames := 0, cells := 0, slots := 0, locals := 0 } : Room).slots) := by
  refine MetFree.of_bodySF (plainFor_of_name pn0) hisR ?_
  intro p e s m args below meth c s₁ Bd hml0 hP hK
  obtain ⟨rfl, hZ, hh⟩ := hP
  have hx := Bd.exec
  have hby := Bd.bytes
  have hml : c.maxLocals = 7 := hml0
  have hown : s.vm.findClass "com/example/subject/subject/model/Wildcards" = some m.cls := findClass_of_methodNamed Bd.named
  have hnm := (name_of_methodNamed Bd.named Bd.method).1
  have X0 : Stand p l e ({ frames := 0, cells := 0, slots := 0, locals := 0 } : Room) s m #[(.ref r0), (.int (0 : Int32)), (.int (0 : Int32)), (.ref r3), (.int (0 : Int32))] below meth c s₁ [] 0 0 := Stand.of_body Bd
  have e0 : s₁.heap = h0 := by rw [← hh, Bd.state]; rfl
  have N0 := Fr.nil n0
  have pre0 : ∀ t, Steps p.tables e below (s₁.setTop (mkF m 0 #[rv r0, iv (0 : Int32), iv (0 : Int32), rv r3, iv (0 : Int32), .unset, .unset] [])) t → Steps p.tables e below (s₁.setTop (entryFrame m #[(.ref r0), (.int (0 : Int32)), (.int (0 : Int32)), (.ref r3), (.int (0 : Int32))] 7)) t := fun t k => castTop (ef_36b m r0 (0 : Int32) (0 : Int32) r3 (0 : Int32)) k
  have pre1 : ∀ t, Steps p.tables e below (s₁.setTop (mkF m 52 #[rv r0, iv (0 : Int32), iv (0 : Int32), rv r3, iv (0 : Int32), iv (0 : Int32), .unset] [(.int (1 : Int32))])) t → Steps p.tables e below (s₁.setTop (entryFrame m #[(.ref r0), (.int (0 : Int32)), (.int (0 : Int32)), (.ref r3), (.int (0 : Int32))] 7)) t := by
    intro t kt
    refine pre0 _ ?_
    show Steps p.tables e below (s₁.setTop (mkF m 0 #[rv r0, iv (0 : Int32), iv (0 : Int32), rv r3, iv (0 : Int32), .unset, .unset] [])) _
    refine XS.iloadN X0.here hx rfl (hb hby d36_0) rfl ?_
    refine XS.istore X0.here hx rfl (hb hby d36_1) rfl (l' := #[rv r0, iv (0 : Int32), iv (0 : Int32), rv r3, iv (0 : Int32), iv (0 : Int32), .unset]) rfl ?_
    refine XS.iload X0.here hx rfl (hb hby d36_3) rfl ?_
    refine XS.iloadN X0.here hx rfl (hb hby d36_5) rfl ?_
    refine XS.icmpYes X0.here hx rfl (pc0 := 6) (pc' := 51) rfl (hb hby d36_6) rfl (flt (by decide)).2.1 (by decide) (by decide) ?_
    refine XS.iconst X0.here hx rfl (hb hby d36_51) ?_
    exact kt
  obtain ⟨fs, hr, hrun, hended, hW, hsame⟩ := X0.leave (v := some (.int (1 : Int32))) (fun h => by rw [Bd.returns] at h; cases h)
  refine ⟨_, _, pre1 _ ?_, hrun, hended, _, _, rfl, ?_, ⟨_, rfl⟩, hW, hsame.mono (by decide) (by decide)⟩
  · show Steps p.tables e below (s₁.setTop (mkF m 52 #[rv r0, iv (0 : Int32), iv (0 : Int32), rv r3, iv (0 : Int32), iv (0 : Int32), .unset] [(.int (1 : Int32))])) _
    exact retN X0 hx (t := .boolean) Bd.returns (by simp) (hb hby d36_52) hr
  · show Q36b Z r0 r3 ps va kc ch vb kd dh cs fm h0 n0 _ s₁.heap _
    rw [e0]
    exact ⟨rfl, N0, rfl⟩

theorem ef_36dh (m : MethodId) (x0 : Addr) (x1 : Int32) (x2 : Int32) (x3 : Addr) (x4 : Int32) : entryFrame m #[(.ref x0), (.int x1), (.int x2), (.ref x3), (.int x4)] 7 = mkF m 0 #[.val (.ref x0), .val (.int x1), .val (.int x2), .val (.ref x3), .val (.int x4), .unset, .unset] [] := by first | (simp [entryFrame, mkF, argsToLocals, Value.category]; done) | rfl
def Q36dh (Z : State) (r0 : Addr) (r3 : Addr) (ps : Addr) (va : Addr) (kc : ClassId) (ch : Int32) (vb : Addr) (kd : ClassId) (dh : Int32) (cs : Int32) (fm : Value) (h0 : Heap) (n0 : Nat) (v : Option Value) (h : Heap) (L : List Loc) : Prop := v = some (.int (1 : Int32)) ∧ Fr n0 L ∧ h = h0
set_option maxRecDepth 65536 in
set_option maxHeartbeats 40000000 in
theorem rm36dh (l : Launch) (Z : State) (a0 : Array Value) (hw : ∀ d ∈ tables_1, d.before a0 Z = true) (ws : List Jvm.Cond) (r0 : Addr) (r3 : Addr) (ps : Addr) (va : Addr) (kc : ClassId) (ch : Int32) (vb : Addr) (kd : ClassId) (dh : Int32) (cs : Int32) (fm : Value) (h0 : Heap) (n0 : Nat) (Z0 : n0 ≤ h0.size) (F_pattern_r0 : Fld Z h0 r0 "com/example/subject/subject/model/Wildcards" "pattern" "Ljava/lang/String;" (.ref ps)) (F_firstStar_r0 : Fld Z h0 r0 "com/example/subject/subject/model/Wildcards" "firstStar" "I" (.int (0 : Int32))) (F_lastStar_r0 : Fld Z h0 r0 "com/example/subject/subject/model/Wildcards" "lastStar" "I" (.int (0 : Int32))) (E_r0 : Exa Z h0 r0 "com/example/subject/subject/model/Wildcards") (F_value_ps : Fld Z h0 ps "java/lang/String" "value" "[B" (.ref va)) (F_coder_ps : Fld Z h0 ps "java/lang/String" "coder" "B" (.int (0 : Int32))) (E_ps : Exa Z h0 ps "java/lang/String") (V_va : Arv Z h0 va kc .byte (1 : Int32) [(.int ch)] (.int (0 : Int32))) (F_value_r3 : Fld Z h0 r3 "java/lang/String" "value" "[B" (.ref vb)) (F_coder_r3 : Fld Z h0 r3 "java/lang/String" "coder" "B" (.int (0 : Int32))) (E_r3 : Exa Z h0 r3 "java/lang/String") (V_vb : Arv Z h0 vb kd .byte (1 : Int32) [(.int dh)] (.int (0 : Int32))) (O0 : Old Z n0 h0) (S_cs : Sta Z Z.heap "java/lang/String" "COMPACT_STRINGS" "Z" (.int cs)) (hcs : ¬ (cs = (0 : Int32))) (S_fm : Sta Z Z.heap "jdk/internal/util/Preconditions" "SIOOBE_FORMATTER" "Ljava/util/function/BiFunction;" fm) (hr_fm : fm.isRef = true) (hok_ch : own_ok ch) (hok_dh : own_ok dh) (hcd : ¬ (ch = dh)) :
    MetFree l (⟨"com/example/subject/subject/model/Wildcards", "fitsAt", "(IILjava/lang/String;I)Z"⟩ : MethodName) (head1 (Jvm.Cond.code (⟨"com/example/subject/subject/model/Wildcards", "fitsAt", "(IILjava/lang/String;I)Z"⟩ : MethodName) prog_51_method_12_code 7 (some .boolean) :: ws) ({ frames := 0, cells := 0, slots := 0, locals := 0 } : Room)) (fun a U => a = #[(.ref r0), (.int (1 : Int32)), (.int (1 : Int32)), (.ref r3), (.int (1 : Int32))] ∧ Z.Warmed39 U.vm ∧ U.heap = h0) (fun _ _ _ _ _ => True) (fun _ U o U' => ∃ v L, o = .returned v ∧ Q36dh Z r0 r3 ps va kc ch vb kd dh cs fm h0 n0 v U'.heap L ∧ FrameEnd U o U' L ({ frames := 0, cells := 0, slots := 0, locals := 0 } : Room).cells ({ frames := 0, cells := 0, slots := 0, locals := 0 } : Room).slots) := by
  refine MetFree.of_bodySF (plainFor_of_name pn0) hisR ?_
  intro p e s m args below meth c s₁ Bd hml0 hP hK
  obtain ⟨rfl, hZ, hh⟩ := hP
  have hx := Bd.exec
  have hby := Bd.bytes
  have hml : c.maxLocals = 7 := hml0
  have hown : s.vm.findClass "com/example/subject/subject/model/Wildcards" = some m.cls := findClass_of_methodNamed Bd.named
  have hnm := (name_of_methodNamed Bd.named Bd.method).1
  have X0 : Stand p l e ({ frames := 0, cells := 0, slots := 0, locals := 0 } : Room) s m #[(.ref r0), (.int (1 : Int32)), (.int (1 : Int32)), (.ref r3), (.int (1 : Int32))] below meth c s₁ [] 0 0 := Stand.of_body Bd
  have e0 : s₁.heap = h0 := by rw [← hh, Bd.state]; rfl
  have N0 := Fr.nil n0
  have pre0 : ∀ t, Steps p.tables e below (s₁.setTop (mkF m 0 #[rv r0, iv (1 : Int32), iv (1 : Int32), rv r3, iv (1 : Int32), .unset, .unset] [])) t → Steps p.tables e below (s₁.setTop (entryFrame m #[(.ref r0), (.int (1 : Int32)), (.int (1 : Int32)), (.ref r3), (.int (1 : Int32))] 7)) t := fun t k => castTop (ef_36dh m r0 (1 : Int32) (1 : Int32) r3 (1 : Int32)) k
  have pre1 : ∀ t, Steps p.tables e below (s₁.setTop (mkF m 52 #[rv r0, iv (1 : Int32), iv (1 : Int32), rv r3, iv (1 : Int32), iv (1 : Int32), .unset] [(.int (1 : Int32))])) t → Steps p.tables e below (s₁.setTop (entryFrame m #[(.ref r0), (.int (1 : Int32)), (.int (1 : Int32)), (.ref r3), (.int (1 : Int32))] 7)) t := by
    intro t kt
    refine pre0 _ ?_
    show Steps p.tables e below (s₁.setTop (mkF m 0 #[rv r0, iv (1 : Int32), iv (1 : Int32), rv r3, iv (1 : Int32), .unset, .unset] [])) _
    refine XS.iloadN X0.here hx rfl (hb hby d36_0) rfl ?_
    refine XS.istore X0.here hx rfl (hb hby d36_1) rfl (l' := #[rv r0, iv (1 : Int32), iv (1 : Int32), rv r3, iv (1 : Int32), iv (1 : Int32), .unset]) rfl ?_
    refine XS.iload X0.here hx rfl (hb hby d36_3) rfl ?_
    refine XS.iloadN X0.here hx rfl (hb hby d36_5) rfl ?_
    refine XS.icmpYes X0.here hx rfl (pc0 := 6) (pc' := 51) rfl (hb hby d36_6) rfl (flt (by decide)).2.1 (by decide) (by decide) ?_
    refine XS.iconst X0.here hx rfl (hb hby d36_51) ?_
    exact kt
  obtain ⟨fs, hr, hrun, hended, hW, hsame⟩ := X0.leave (v := some (.int (1 : Int32))) (fun h => by rw [Bd.returns] at h; cases h)
  refine ⟨_, _, pre1 _ ?_, hrun, hended, _, _, rfl, ?_, ⟨_, rfl⟩, hW, hsame.mono (by decide) (by decide)⟩
  · show Steps p.tables e below (s₁.setTop (mkF m 52 #[rv r0, iv (1 : Int32), iv (1 : Int32), rv r3, iv (1 : Int32), iv (1 : Int32), .unset] [(.int (1 : Int32))])) _
    exact retN X0 hx (t := .boolean) Bd.returns (by simp) (hb hby d36_52) hr
  · show Q36dh Z r0 r3 ps va kc ch vb kd dh cs fm h0 n0 _ s₁.heap _
    rw [e0]
    exact ⟨rfl, N0, rfl⟩
theorem own_fit0 {ch : Int32} (h : own_fit ch = (0 : Int32)) : own_fit ch = (0 : Int32) := h
theorem own_fit1 {ch : Int32} (h : ¬ (own_fit ch = (0 : Int32))) : own_fit ch = (1 : Int32) := by
  unfold own_fit at *
  split at h
  · rename_i q; rw [if_pos q]
  · exact absurd rfl h
theorem d35_0 : decode prog_51_method_7_code 0 = .ok (.aload_n 0, 1) := by decide +kernel
theorem d35_1 : decode prog_51_method_7_code 1 = .ok (.getfield 19, 3) := by decide +kernel
theorem d35_4 : decode prog_51_method_7_code 4 = .ok (.ifCond .ge 40, 3) := by decide +kernel
theorem d35_7 : decode prog_51_method_7_code 7 = .ok (.aload_n 0, 1) := by decide +kernel
theorem d35_8 : decode prog_51_method_7_code 8 = .ok (.getfield 7, 3) := by decide +kernel
theorem d35_11 : decode prog_51_method_7_code 11 = .ok (.invokevirtual 47, 3) := by decide +kernel
theorem d35_14 : decode prog_51_method_7_code 14 = .ok (.aload_n 1, 1) := by decide +kernel
theorem d35_15 : decode prog_51_method_7_code 15 = .ok (.invokevirtual 47, 3) := by decide +kernel
theorem d35_18 : decode prog_51_method_7_code 18 = .ok (.if_icmp .ne 24, 3) := by decide +kernel
theorem d35_21 : decode prog_51_method_7_code 21 = .ok (.aload_n 0, 1) := by decide +kernel
theorem d35_22 : decode prog_51_method_7_code 22 = .ok (.iconst 0, 1) := by decide +kernel
theorem d35_23 : decode prog_51_method_7_code 23 = .ok (.aload_n 0, 1) := by decide +kernel
theorem d35_24 : decode prog_51_method_7_code 24 = .ok (.getfield 7, 3) := by decide +kernel
theorem d35_27 : decode prog_51_method_7_code 27 = .ok (.invokevirtual 47, 3) := by decide +kernel
theorem d35_30 : decode prog_51_method_7_code 30 = .ok (.aload_n 1, 1) := by decide +kernel
theorem d35_31 : decode prog_51_method_7_code 31 = .ok (.iconst 0, 1) := by decide +kernel
theorem pd31 : parseMethodDescriptor "(IILjava/lang/String;I)Z" = some ⟨[.int, .int, (.object "java/lang/String"), .int], some .boolean⟩ := by decide +kernel
theorem d35_32 : decode prog_51_method_7_code 32 = .ok (.invokevirtual 92, 3) := by decide +kernel
theorem d35_35 : decode prog_51_method_7_code 35 = .ok (.ifCond .eq 7, 3) := by decide +kernel
theorem d35_42 : decode prog_51_method_7_code 42 = .ok (.iconst 0, 1) := by decide +kernel
theorem d35_43 : decode prog_51_method_7_code 43 = .ok (.ireturn, 1) := by decide +kernel
theorem d35_38 : decode prog_51_method_7_code 38 = .ok (.iconst 1, 1) := by decide +kernel
theorem d35_39 : decode prog_51_method_7_code 39 = .ok (.goto 4, 3) := by decide +kernel
theorem ef_35N (m : MethodId) (x0 : Addr) (x1 : Addr) : entryFrame m #[(.ref x0), (.ref x1)] 6 = mkF m 0 #[.val (.ref x0), .val (.ref x1), .unset, .unset, .unset, .unset] [] := by first | (simp [entryFrame, mkF, argsToLocals, Value.category]; done) | rfl
def Q35N (Z : State) (r0 : Addr) (r1 : Addr) (ps : Addr) (va : Addr) (kc : ClassId) (ch : Int32) (vb : Addr) (kd : ClassId) (dh : Int32) (cs : Int32) (fm : Value) (h0 : Heap) (n0 : Nat) (v : Option Value) (h : Heap) (L : List Loc) : Prop := v = some (.int (own_fit ch)) ∧ Fr n0 L ∧ h = h0
set_option maxRecDepth 65536 in
set_option maxHeartbeats 40000000 in
theorem rm35N (l : Launch) (Z : State) (a0 : Array Value) (hw : ∀ d ∈ tables_1, d.before a0 Z = true) (ws : List Jvm.Cond) (r0 : Addr) (r1 : Addr) (ps : Addr) (va : Addr) (kc : ClassId) (ch : Int32) (vb : Addr) (kd : ClassId) (dh : Int32) (cs : Int32) (fm : Value) (h0 : Heap) (n0 : Nat) (Z0 : n0 ≤ h0.size) (F_pattern_r0 : Fld Z h0 r0 "com/example/subject/subject/model/Wildcards" "pattern" "Ljava/lang/String;" (.ref ps)) (F_firstStar_r0 : Fld Z h0 r0 "com/example/subject/subject/model/Wildcards" "firstStar" "I" (.int (-1 : Int32))) (F_lastStar_r0 : Fld Z h0 r0 "com/example/subject/subject/model/Wildcards" "lastStar" "I" (.int (-1 : Int32))) (E_r0 : Exa Z h0 r0 "com/example/subject/subject/model/Wildcards") (F_value_ps : Fld Z h0 ps "java/lang/String" "value" "[B" (.ref va)) (F_coder_ps : Fld Z h0 ps "java/lang/String" "coder" "B" (.int (0 : Int32))) (E_ps : Exa Z h0 ps "java/lang/String") (V_va : Arv Z h0 va kc .byte (1 : Int32) [(.int ch)] (.int (0 : Int32))) (F_value_r1 : Fld Z h0 r1 "java/lang/String" "value" "[B" (.ref vb)) (F_coder_r1 : Fld Z h0 r1 "java/lang/String" "coder" "B" (.int (0 : Int32))) (E_r1 : Exa Z h0 r1 "java/lang/String") (V_vb : Arv Z h0 vb kd .byte (1 : Int32) [(.int dh)] (.int (0 : Int32))) (O0 : Old Z n0 h0) (S_cs : Sta Z Z.heap "java/lang/String" "COMPACT_STRINGS" "Z" (.int cs)) (hcs : ¬ (cs = (0 : Int32))) (S_fm : Sta Z Z.heap "jdk/internal/util/Preconditions" "SIOOBE_FORMATTER" "Ljava/util/function/BiFunction;" fm) (hr_fm : fm.isRef = true) (hok_ch : own_ok ch) (hok_dh : own_ok dh) (hcd : ¬ (ch = dh)) :
    MetFree l (⟨"com/example/subject/subject/model/Wildcards", "matches", "(Ljava/lang/String;)Z"⟩ : MethodName) (head1 (Jvm.Cond.code (⟨"com/example/subject/subject/model/Wildcards", "matches", "(Ljava/lang/String;)Z"⟩ : MethodName) prog_51_method_7_code 6 (some .boolean) :: ws) ({ frames := 5, cells := 0, slots := 0, locals := 72 } : Room)) (fun a U => a = #[(.ref r0), (.ref r1)] ∧ Z.Warmed39 U.vm ∧ U.heap = h0) (fun _ _ _ _ _ => True) (fun _ U o U' => ∃ v L, o = .returned v ∧ Q35N Z r0 r1 ps va kc ch vb kd dh cs fm h0 n0 v U'.heap L ∧ FrameEnd U o U' L ({ frames := 5, cells := 0, slots := 0, locals := 72 } : Room).cells ({ frames := 5, cells := 0, slots := 0, locals := 72 } : Room).slots) := by
  refine MetFree.of_bodySF (plainFor_of_name pn0) hisR ?_
  intro p e s m args below meth c s₁ Bd hml0 hP hK
  obtain ⟨rfl, hZ, hh⟩ := hP
  have hx := Bd.exec
  have hby := Bd.bytes
  have hml : c.maxLocals = 6 := hml0
  have hown : s.vm.findClass "com/example/subject/subject/model/Wildcards" = some m.cls := findClass_of_methodNamed Bd.named
  have hnm := (name_of_methodNamed Bd.named Bd.method).1
  have X0 : Stand p l e ({ frames := 5, cells := 0, slots := 0, locals := 72 } : Room) s m #[(.ref r0), (.ref r1)] below meth c s₁ [] 0 0 := Stand.of_body Bd
  have e0 : s₁.heap = h0 := by rw [← hh, Bd.state]; rfl
  have N0 := Fr.nil n0
  have pre0 : ∀ t, Steps p.tables e below (s₁.setTop (mkF m 0 #[rv r0, rv r1, .unset, .unset, .unset, .unset] [])) t → Steps p.tables e below (s₁.setTop (entryFrame m #[(.ref r0), (.ref r1)] 6)) t := fun t k => castTop (ef_35N m r0 r1) k
  have pre1 : ∀ t, Steps p.tables e below (s₁.setTop (mkF m 1 #[rv r0, rv r1, .unset, .unset, .unset, .unset] [(.ref r0)])) t → Steps p.tables e below (s₁.setTop (entryFrame m #[(.ref r0), (.ref r1)] 6)) t := by
    intro t kt
    refine pre0 _ ?_
    show Steps p.tables e below (s₁.setTop (mkF m 0 #[rv r0, rv r1, .unset, .unset, .unset, .unset] [])) _
    refine XS.aloadN X0.here hx rfl (hb hby d35_0) rfl rfl ?_
    exact kt
  obtain ⟨T2, X2, e2, st2⟩ := getF X0 hx hZ hown (host := "") (Or.inl (hw _ (List.mem_of_getElem? (i := 114) rfl))) Via.refl e0 F_firstStar_r0 (g := (mkF m 1 #[rv r0, rv r1, .unset, .unset, .unset, .unset] [(.ref r0)])) rfl rfl (hb hby d35_1)
  have pre3 : ∀ t, Steps p.tables e below (T2.setTop (mkF m 8 #[rv r0, rv r1, .unset, .unset, .unset, .unset] [(.ref r0)])) t → Steps p.tables e below (s₁.setTop (entryFrame m #[(.ref r0), (.ref r1)] 6)) t := by
    intro t kt
    refine pre1 _ ?_
    show Steps p.tables e below (s₁.setTop (mkF m 1 #[rv r0, rv r1, .unset, .unset, .unset, .unset] [(.ref r0)])) _
    refine st2 _ ?_
    show Steps p.tables e below (T2.setTop (mkF m 4 #[rv r0, rv r1, .unset, .unset, .unset, .unset] [(.int (-1 : Int32))])) _
    refine XS.ifNo X2.here hx rfl (hb hby d35_4) rfl ((if0 _ _).trans (tlt (by decide)).2.1) ?_
    refine XS.aloadN X2.here hx rfl (hb hby d35_7) rfl rfl ?_
    exact kt
  obtain ⟨T4, X4, e4, st4⟩ := getF X2 hx hZ hown (host := "") (Or.inl (hw _ (List.mem_of_getElem? (i := 81) rfl))) Via.refl e2 F_pattern_r0 (g := (mkF m 8 #[rv r0, rv r1, .unset, .unset, .unset, .unset] [(.ref r0)])) rfl rfl (hb hby d35_8)
  have pre5 : ∀ t, Steps p.tables e below (T4.setTop (mkF m 11 #[rv r0, rv r1, .unset, .unset, .unset, .unset] [(.ref ps)])) t → Steps p.tables e below (s₁.setTop (entryFrame m #[(.ref r0), (.ref r1)] 6)) t := by
    intro t kt
    refine pre3 _ ?_
    show Steps p.tables e below (T2.setTop (mkF m 8 #[rv r0, rv r1, .unset, .unset, .unset, .unset] [(.ref r0)])) _
    refine st4 _ ?_
    exact kt
  obtain ⟨cq6, kq6, q6a, q6b, q6c⟩ := isOf hZ e4 E_ps
  obtain ⟨_, _, ⟨T6, L6, k6, n6⟩, -, X6, ⟨Lc6, hQ6, l6, y6, z6⟩, st6⟩ := X4.virtualBack hx (y := (⟨"java/lang/String", "length", "()I"⟩ : MethodName)) (z := (⟨"java/lang/String", "length", "()I"⟩ : MethodName)) hown (mvT hZ (hw _ (List.mem_of_getElem? (i := 189) rfl))) (mvT hZ (hw _ (List.mem_of_getElem? (i := 94) rfl))) (notFace_of_selects (args := #[]) (mvT hZ (hw _ (List.mem_of_getElem? (i := 96) rfl)))) (mvT hZ (hw _ (List.mem_of_getElem? (i := 96) rfl))) (mvT hZ (hw _ (List.mem_of_getElem? (i := 95) rfl))) (by decide) (backOf (W := 0) (rm19 l Z a0 hw [] ps va kc ch cs h0 n0 (Nat.le_trans Z0 (Keep.refl h0 []).1) F_value_ps F_coder_ps E_ps V_va (O0.keep (Keep.refl h0 []) all0) S_cs hcs) hZ (hw _ (List.mem_of_getElem? (i := 97) rfl)) (hw _ (List.mem_of_getElem? (i := 7) rfl)) (by decide) (by decide)) q6a q6c (g := (mkF m 11 #[rv r0, rv r1, .unset, .unset, .unset, .unset] [(.ref ps)])) rfl (by rw [hml]; rfl) (Steps.refl _) (argsL := []) (rest := []) (lenOf pd21 rfl) rfl (by show 2 * 0 + _ ≤ _; exact Nat.le_of_eq rfl) (hb hby d35_11) (fun _ _ => ⟨rfl, e4, (by decide : 0 + 0 ≤ _), (by decide : 0 + 0 ≤ _)⟩)
  dsimp only [Pt.U, Pt.locs, Pt.cells, Pt.slots] at X6 l6 y6 z6 st6 hQ6
  subst l6 y6 z6
  obtain ⟨rfl, N6q, hh6⟩ := hQ6
  have N6 := Fr.app N0 N6q
  have pre7 : ∀ t, Steps p.tables e below (T6.setTop (mkF m 15 #[rv r0, rv r1, .unset, .unset, .unset, .unset] [(.ref r1), (.int (1 : Int32))])) t → Steps p.tables e below (s₁.setTop (entryFrame m #[(.ref r0), (.ref r1)] 6)) t := by
    intro t kt
    refine pre5 _ ?_
    show Steps p.tables e below (T4.setTop (mkF m 11 #[rv r0, rv r1, .unset, .unset, .unset, .unset] [(.ref ps)])) _
    refine st6.trans ?_
    show Steps p.tables e below (T6.setTop (mkF m 14 #[rv r0, rv r1, .unset, .unset, .unset, .unset] [(.int (1 : Int32))])) _
    refine XS.aloadN X6.here hx rfl (hb hby d35_14) rfl rfl ?_
    exact kt
  obtain ⟨cq8, kq8, q8a, q8b, q8c⟩ := isOf hZ hh6 E_r1
  obtain ⟨_, _, ⟨T8, L8, k8, n8⟩, -, X8, ⟨Lc8, hQ8, l8, y8, z8⟩, st8⟩ := X6.virtualBack hx (y := (⟨"java/lang/String", "length", "()I"⟩ : MethodName)) (z := (⟨"java/lang/String", "length", "()I"⟩ : MethodName)) hown (mvT hZ (hw _ (List.mem_of_getElem? (i := 189) rfl))) (mvT hZ (hw _ (List.mem_of_getElem? (i := 94) rfl))) (notFace_of_selects (args := #[]) (mvT hZ (hw _ (List.mem_of_getElem? (i := 96) rfl)))) (mvT hZ (hw _ (List.mem_of_getElem? (i := 96) rfl))) (mvT hZ (hw _ (List.mem_of_getElem? (i := 95) rfl))) (by decide) (backOf (W := 1) (rm19 l Z a0 hw [] r1 vb kd dh cs h0 n0 (Nat.le_trans Z0 (Keep.refl h0 []).1) F_value_r1 F_coder_r1 E_r1 V_vb (O0.keep (Keep.refl h0 []) all0) S_cs hcs) hZ (hw _ (List.mem_of_getElem? (i := 97) rfl)) (hw _ (List.mem_of_getElem? (i := 7) rfl)) (by decide) (by decide)) q8a q8c (g := (mkF m 15 #[rv r0, rv r1, .unset, .unset, .unset, .unset] [(.ref r1), (.int (1 : Int32))])) rfl (by rw [hml]; rfl) (Steps.refl _) (argsL := []) (rest := [(.int (1 : Int32))]) (lenOf pd21 rfl) rfl (by show 2 * 0 + _ ≤ _; exact Nat.le_of_eq rfl) (hb hby d35_15) (fun _ _ => ⟨rfl, hh6, (by decide : 0 + 0 ≤ _), (by decide : 0 + 0 ≤ _)⟩)
  dsimp only [Pt.U, Pt.locs, Pt.cells, Pt.slots] at X8 l8 y8 z8 st8 hQ8
  subst l8 y8 z8
  obtain ⟨rfl, N8q, hh8⟩ := hQ8
  have N8 := Fr.app N6 N8q
  have pre9 : ∀ t, Steps p.tables e below (T8.setTop (mkF m 24 #[rv r0, rv r1, .unset, .unset, .unset, .unset] [(.ref r0), (.int (0 : Int32)), (.ref r0)])) t → Steps p.tables e below (s₁.setTop (entryFrame m #[(.ref r0), (.ref r1)] 6)) t := by
    intro t kt
    refine pre7 _ ?_
    show Steps p.tables e below (T6.setTop (mkF m 15 #[rv r0, rv r1, .unset, .unset, .unset, .unset] [(.ref r1), (.int (1 : Int32))])) _
    refine st8.trans ?_
    show Steps p.tables e below (T8.setTop (mkF m 18 #[rv r0, rv r1, .unset, .unset, .unset, .unset] [(.int (1 : Int32)), (.int (1 : Int32))])) _
    refine XS.icmpNo X8.here hx rfl (hb hby d35_18) rfl (teq (by decide)).2 ?_
    refine XS.aloadN X8.here hx rfl (hb hby d35_21) rfl rfl ?_
    refine XS.iconst X8.here hx rfl (hb hby d35_22) ?_
    refine XS.aloadN X8.here hx rfl (hb hby d35_23) rfl rfl ?_
    exact kt
  obtain ⟨T10, X10, e10, st10⟩ := getF X8 hx hZ hown (host := "") (Or.inl (hw _ (List.mem_of_getElem? (i := 81) rfl))) Via.refl hh8 F_pattern_r0 (g := (mkF m 24 #[rv r0, rv r1, .unset, .unset, .unset, .unset] [(.ref r0), (.int (0 : Int32)), (.ref r0)])) rfl rfl (hb hby d35_24)
  have pre11 : ∀ t, Steps p.tables e below (T10.setTop (mkF m 27 #[rv r0, rv r1, .unset, .unset, .unset, .unset] [(.ref ps), (.int (0 : Int32)), (.ref r0)])) t → Steps p.tables e below (s₁.setTop (entryFrame m #[(.ref r0), (.ref r1)] 6)) t := by
    intro t kt
    refine pre9 _ ?_
    show Steps p.tables e below (T8.setTop (mkF m 24 #[rv r0, rv r1, .unset, .unset, .unset, .unset] [(.ref r0), (.int (0 : Int32)), (.ref r0)])) _
    refine st10 _ ?_
    exact kt
  obtain ⟨cq12, kq12, q12a, q12b, q12c⟩ := isOf hZ e10 E_ps
  obtain ⟨_, _, ⟨T12, L12, k12, n12⟩, -, X12, ⟨Lc12, hQ12, l12, y12, z12⟩, st12⟩ := X10.virtualBack hx (y := (⟨"java/lang/String", "length", "()I"⟩ : MethodName)) (z := (⟨"java/lang/String", "length", "()I"⟩ : MethodName)) hown (mvT hZ (hw _ (List.mem_of_getElem? (i := 189) rfl))) (mvT hZ (hw _ (List.mem_of_getElem? (i := 94) rfl))) (notFace_of_selects (args := #[]) (mvT hZ (hw _ (List.mem_of_getElem? (i := 96) rfl)))) (mvT hZ (hw _ (List.mem_of_getElem? (i := 96) rfl))) (mvT hZ (hw _ (List.mem_of_getElem? (i := 95) rfl))) (by decide) (backOf (W := 2) (rm19 l Z a0 hw [] ps va kc ch cs h0 n0 (Nat.le_trans Z0 (Keep.refl h0 []).1) F_value_ps F_coder_ps E_ps V_va (O0.keep (Keep.refl h0 []) all0) S_cs hcs) hZ (hw _ (List.mem_of_getElem? (i := 97) rfl)) (hw _ (List.mem_of_getElem? (i := 7) rfl)) (by decide) (by decide)) q12a q12c (g := (mkF m 27 #[rv r0, rv r1, .unset, .unset, .unset, .unset] [(.ref ps), (.int (0 : Int32)), (.ref r0)])) rfl (by rw [hml]; rfl) (Steps.refl _) (argsL := []) (rest := [(.int (0 : Int32)), (.ref r0)]) (lenOf pd21 rfl) rfl (by show 2 * 0 + _ ≤ _; exact Nat.le_of_eq rfl) (hb hby d35_27) (fun _ _ => ⟨rfl, e10, (by decide : 0 + 0 ≤ _), (by decide : 0 + 0 ≤ _)⟩)
  dsimp only [Pt.U, Pt.locs, Pt.cells, Pt.slots] at X12 l12 y12 z12 st12 hQ12
  subst l12 y12 z12
  obtain ⟨rfl, N12q, hh12⟩ := hQ12
  have N12 := Fr.app N8 N12q
  have pre13 : ∀ t, Steps p.tables e below (T12.setTop (mkF m 32 #[rv r0, rv r1, .unset, .unset, .unset, .unset] [(.int (0 : Int32)), (.ref r1), (.int (1 : Int32)), (.int (0 : Int32)), (.ref r0)])) t → Steps p.tables e below (s₁.setTop (entryFrame m #[(.ref r0), (.ref r1)] 6)) t := by
    intro t kt
    refine pre11 _ ?_
    show Steps p.tables e below (T10.setTop (mkF m 27 #[rv r0, rv r1, .unset, .unset, .unset, .unset] [(.ref ps), (.int (0 : Int32)), (.ref r0)])) _
    refine st12.trans ?_
    show Steps p.tables e below (T12.setTop (mkF m 30 #[rv r0, rv r1, .unset, .unset, .unset, .unset] [(.int (1 : Int32)), (.int (0 : Int32)), (.ref r0)])) _
    refine XS.aloadN X12.here hx rfl (hb hby d35_30) rfl rfl ?_
    refine XS.iconst X12.here hx rfl (hb hby d35_31) ?_
    exact kt
  obtain ⟨cq14, q14, q14'⟩ := E_r0.cell
  obtain ⟨_, _, ⟨T14, L14, k14, n14⟩, -, X14, ⟨Lc14, hQ14, l14, y14, z14⟩, st14⟩ := X12.privateBack hx (y := (⟨"com/example/subject/subject/model/Wildcards", "fitsAt", "(IILjava/lang/String;I)Z"⟩ : MethodName)) hown (mvT hZ (hw _ (List.mem_of_getElem? (i := 190) rfl))) (mvT hZ (hw _ (List.mem_of_getElem? (i := 191) rfl))) (own_selp (y := (⟨"com/example/subject/subject/model/Wildcards", "fitsAt", "(IILjava/lang/String;I)Z"⟩ : MethodName)) (mvT hZ (hw _ (List.mem_of_getElem? (i := 76) rfl))) (Cond.privateMethod_at (mvP hZ (hw _ (List.mem_of_getElem? (i := 192) rfl)) (args := #[]))) (mvT hZ (hw _ (List.mem_of_getElem? (i := 191) rfl))) (by decide)) (Cond.privateMethod_at (mvP hZ (hw _ (List.mem_of_getElem? (i := 192) rfl)) (args := #[]))) (mvT hZ (hw _ (List.mem_of_getElem? (i := 193) rfl))) (by decide) (backOf (W := 0) (rm36a l Z a0 hw [] r0 r1 ps va kc ch vb kd dh cs fm h0 n0 (Nat.le_trans Z0 (Keep.refl h0 []).1) F_pattern_r0 F_firstStar_r0 F_lastStar_r0 E_r0 F_value_ps F_coder_ps E_ps V_va F_value_r1 F_coder_r1 E_r1 V_vb (O0.keep (Keep.refl h0 []) all0) S_cs hcs S_fm hr_fm hok_ch hok_dh hcd) hZ (hw _ (List.mem_of_getElem? (i := 193) rfl)) (hw _ (List.mem_of_getElem? (i := 3) rfl)) (by decide) (by decide)) (g := (mkF m 32 #[rv r0, rv r1, .unset, .unset, .unset, .unset] [(.int (0 : Int32)), (.ref r1), (.int (1 : Int32)), (.int (0 : Int32)), (.ref r0)])) rfl (by rw [hml]; rfl) (Steps.refl _) (a := r0) (by rw [hh12]; exact q14) q14' (argsL := [(.int (0 : Int32)), (.int (1 : Int32)), (.ref r1), (.int (0 : Int32))]) (rest := []) (lenOf pd31 rfl) rfl (by show 2 * 0 + _ ≤ _; exact Nat.le_of_eq rfl) (hb hby d35_32) (fun _ _ => ⟨rfl, hh12, (by decide : 0 + 0 ≤ _), (by decide : 0 + 0 ≤ _)⟩)
  dsimp only [Pt.U, Pt.locs, Pt.cells, Pt.slots] at X14 l14 y14 z14 st14 hQ14
  subst l14 y14 z14
  obtain ⟨rfl, N14q, hh14⟩ := hQ14
  have N14 := Fr.app N12 N14q
  have pre15 : ∀ t, Steps p.tables e below (T14.setTop (mkF m 35 #[rv r0, rv r1, .unset, .unset, .unset, .unset] [(.int (own_fit ch))])) t → Steps p.tables e below (s₁.setTop (entryFrame m #[(.ref r0), (.ref r1)] 6)) t := by
    intro t kt
    refine pre13 _ ?_
    show Steps p.tables e below (T12.setTop (mkF m 32 #[rv r0, rv r1, .unset, .unset, .unset, .unset] [(.int (0 : Int32)), (.ref r1), (.int (1 : Int32)), (.int (0 : Int32)), (.ref r0)])) _
    refine st14.trans ?_
    exact kt
  by_cases hc35 : (own_fit ch) = (0 : Int32)
  · have pre16 : ∀ t, Steps p.tables e below (T14.setTop (mkF m 43 #[rv r0, rv r1, .unset, .unset, .unset, .unset] [(.int (0 : Int32))])) t → Steps p.tables e below (s₁.setTop (entryFrame m #[(.ref r0), (.ref r1)] 6)) t := by
      intro t kt
      refine pre15 _ ?_
      show Steps p.tables e below (T14.setTop (mkF m 35 #[rv r0, rv r1, .unset, .unset, .unset, .unset] [(.int (own_fit ch))])) _
      refine XS.ifYes X14.here hx rfl (pc0 := 35) (pc' := 42) rfl (hb hby d35_35) rfl ((if0 _ _).trans (teq hc35).1) (by decide) (by decide) ?_
      refine XS.iconst X14.here hx rfl (hb hby d35_42) ?_
      exact kt
    obtain ⟨fs, hr, hrun, hended, hW, hsame⟩ := X14.leave (v := some (.int (0 : Int32))) (fun h => by rw [Bd.returns] at h; cases h)
    refine ⟨_, _, pre16 _ ?_, hrun, hended, _, _, rfl, ?_, ⟨_, rfl⟩, hW, hsame.mono (by decide) (by decide)⟩
    · show Steps p.tables e below (T14.setTop (mkF m 43 #[rv r0, rv r1, .unset, .unset, .unset, .unset] [(.int (0 : Int32))])) _
      exact retN X14 hx (t := .boolean) Bd.returns (by simp) (hb hby d35_43) hr
    · show Q35N Z r0 r1 ps va kc ch vb kd dh cs fm h0 n0 _ T14.heap _
      rw [hh14]
      exact ⟨congrArg (fun z => some (Value.int z)) (own_fit0 hc35).symm, N14, rfl⟩
  · have pre17 : ∀ t, Steps p.tables e below (T14.setTop (mkF m 43 #[rv r0, rv r1, .unset, .unset, .unset, .unset] [(.int (1 : Int32))])) t → Steps p.tables e below (s₁.setTop (entryFrame m #[(.ref r0), (.ref r1)] 6)) t := by
      intro t kt
      refine pre15 _ ?_
      show Steps p.tables e below (T14.setTop (mkF m 35 #[rv r0, rv r1, .unset, .unset, .unset, .unset] [(.int (own_fit ch))])) _
      refine XS.ifNo X14.here hx rfl (hb hby d35_35) rfl ((if0 _ _).trans (feq hc35).1) ?_
      refine XS.iconst X14.here hx rfl (hb hby d35_38) ?_
      refine XS.goto X14.here hx rfl (pc0 := 39) (pc' := 43) rfl (hb hby d35_39) (by decide) (by decide) ?_
      exact kt
    obtain ⟨fs, hr, hrun, hended, hW, hsame⟩ := X14.leave (v := some (.int (1 : Int32))) (fun h => by rw [Bd.returns] at h; cases h)
    refine ⟨_, _, pre17 _ ?_, hrun, hended, _, _, rfl, ?_, ⟨_, rfl⟩, hW, hsame.mono (by decide) (by decide)⟩
    · show Steps p.tables e below (T14.setTop (mkF m 43 #[rv r0, rv r1, .unset, .unset, .unset, .unset] [(.int (1 : Int32))])) _
      exact retN X14 hx (t := .boolean) Bd.returns (by simp) (hb hby d35_43) hr
    · show Q35N Z r0 r1 ps va kc ch vb kd dh cs fm h0 n0 _ T14.heap _
      rw [hh14]
      exact ⟨congrArg (fun z => some (Value.int z)) (own_fit1 hc35).symm, N14, rfl⟩
theorem d35_44 : decode prog_51_method_7_code 44 = .ok (.aload_n 1, 1) := by decide +kernel
theorem d35_45 : decode prog_51_method_7_code 45 = .ok (.invokevirtual 47, 3) := by decide +kernel
theorem d35_48 : decode prog_51_method_7_code 48 = .ok (.aload_n 0, 1) := by decide +kernel
theorem d35_49 : decode prog_51_method_7_code 49 = .ok (.getfield 7, 3) := by decide +kernel
theorem d35_52 : decode prog_51_method_7_code 52 = .ok (.invokevirtual 47, 3) := by decide +kernel
theorem d35_55 : decode prog_51_method_7_code 55 = .ok (.aload_n 0, 1) := by decide +kernel
theorem d35_56 : decode prog_51_method_7_code 56 = .ok (.getfield 26, 3) := by decide +kernel
theorem d35_59 : decode prog_51_method_7_code 59 = .ok (.isub, 1) := by decide +kernel
theorem d35_60 : decode prog_51_method_7_code 60 = .ok (.iconst 1, 1) := by decide +kernel
theorem d35_61 : decode prog_51_method_7_code 61 = .ok (.isub, 1) := by decide +kernel
theorem d35_62 : decode prog_51_method_7_code 62 = .ok (.isub, 1) := by decide +kernel
theorem d35_63 : decode prog_51_method_7_code 63 = .ok (.istore_n 2, 1) := by decide +kernel
theorem d35_64 : decode prog_51_method_7_code 64 = .ok (.iload_n 2, 1) := by decide +kernel
theorem d35_65 : decode prog_51_method_7_code 65 = .ok (.aload_n 0, 1) := by decide +kernel
theorem d35_66 : decode prog_51_method_7_code 66 = .ok (.getfield 19, 3) := by decide +kernel
theorem d35_69 : decode prog_51_method_7_code 69 = .ok (.if_icmp .lt 39, 3) := by decide +kernel
theorem d35_72 : decode prog_51_method_7_code 72 = .ok (.aload_n 0, 1) := by decide +kernel
theorem d35_73 : decode prog_51_method_7_code 73 = .ok (.iconst 0, 1) := by decide +kernel
theorem d35_74 : decode prog_51_method_7_code 74 = .ok (.aload_n 0, 1) := by decide +kernel
theorem d35_75 : decode prog_51_method_7_code 75 = .ok (.getfield 19, 3) := by decide +kernel
theorem d35_78 : decode prog_51_method_7_code 78 = .ok (.aload_n 1, 1) := by decide +kernel
theorem d35_79 : decode prog_51_method_7_code 79 = .ok (.iconst 0, 1) := by decide +kernel
theorem d35_80 : decode prog_51_method_7_code 80 = .ok (.invokevirtual 92, 3) := by decide +kernel
theorem d35_83 : decode prog_51_method_7_code 83 = .ok (.ifCond .eq 25, 3) := by decide +kernel
theorem d35_86 : decode prog_51_method_7_code 86 = .ok (.aload_n 0, 1) := by decide +kernel
theorem d35_87 : decode prog_51_method_7_code 87 = .ok (.aload_n 0, 1) := by decide +kernel
theorem d35_88 : decode prog_51_method_7_code 88 = .ok (.getfield 26, 3) := by decide +kernel
theorem d35_91 : decode prog_51_method_7_code 91 = .ok (.iconst 1, 1) := by decide +kernel
theorem d35_92 : decode prog_51_method_7_code 92 = .ok (.iadd, 1) := by decide +kernel
theorem d35_93 : decode prog_51_method_7_code 93 = .ok (.aload_n 0, 1) := by decide +kernel
theorem d35_94 : decode prog_51_method_7_code 94 = .ok (.getfield 7, 3) := by decide +kernel
theorem d35_97 : decode prog_51_method_7_code 97 = .ok (.invokevirtual 47, 3) := by decide +kernel
theorem d35_100 : decode prog_51_method_7_code 100 = .ok (.aload_n 1, 1) := by decide +kernel
theorem d35_101 : decode prog_51_method_7_code 101 = .ok (.iload_n 2, 1) := by decide +kernel
theorem d35_102 : decode prog_51_method_7_code 102 = .ok (.invokevirtual 92, 3) := by decide +kernel
theorem d35_105 : decode prog_51_method_7_code 105 = .ok (.ifCond .ne 5, 3) := by decide +kernel
theorem d35_110 : decode prog_51_method_7_code 110 = .ok (.aload_n 0, 1) := by decide +kernel
theorem d35_111 : decode prog_51_method_7_code 111 = .ok (.getfield 19, 3) := by decide +kernel
theorem d35_114 : decode prog_51_method_7_code 114 = .ok (.istore_n 3, 1) := by decide +kernel
theorem d35_115 : decode prog_51_method_7_code 115 = .ok (.aload_n 0, 1) := by decide +kernel
theorem d35_116 : decode prog_51_method_7_code 116 = .ok (.getfield 19, 3) := by decide +kernel
theorem d35_119 : decode prog_51_method_7_code 119 = .ok (.istore 4, 2) := by decide +kernel
theorem d35_121 : decode prog_51_method_7_code 121 = .ok (.iload 4, 2) := by decide +kernel
theorem d35_123 : decode prog_51_method_7_code 123 = .ok (.aload_n 0, 1) := by decide +kernel
theorem d35_124 : decode prog_51_method_7_code 124 = .ok (.getfield 26, 3) := by decide +kernel
theorem d35_127 : decode prog_51_method_7_code 127 = .ok (.if_icmp .ge 46, 3) := by decide +kernel
theorem d35_173 : decode prog_51_method_7_code 173 = .ok (.iconst 1, 1) := by decide +kernel
theorem d35_174 : decode prog_51_method_7_code 174 = .ok (.ireturn, 1) := by decide +kernel
theorem ef_35S (m : MethodId) (x0 : Addr) (x1 : Addr) : entryFrame m #[(.ref x0), (.ref x1)] 6 = mkF m 0 #[.val (.ref x0), .val (.ref x1), .unset, .unset, .unset, .unset] [] := by first | (simp [entryFrame, mkF, argsToLocals, Value.category]; done) | rfl
def Q35S (Z : State) (r0 : Addr) (r1 : Addr) (ps : Addr) (va : Addr) (kc : ClassId) (ch : Int32) (vb : Addr) (kd : ClassId) (dh : Int32) (cs : Int32) (fm : Value) (h0 : Heap) (n0 : Nat) (v : Option Value) (h : Heap) (L : List Loc) : Prop := v = some (.int (1 : Int32)) ∧ Fr n0 L ∧ h = h0
set_option maxRecDepth 65536 in
set_option maxHeartbeats 40000000 in
theorem rm35S (l : Launch) (Z : State) (a0 : Array Value) (hw : ∀ d ∈ tables_1, d.before a0 Z = true) (ws : List Jvm.Cond) (r0 : Addr) (r1 : Addr) (ps : Addr) (va : Addr) (kc : ClassId) (ch : Int32) (vb : Addr) (kd : ClassId) (dh : Int32) (cs : Int32) (fm : Value) (h0 : Heap) (n0 : Nat) (Z0 : n0 ≤ h0.size) (F_pattern_r0 : Fld Z h0 r0 "com/example/subject/subject/model/Wildcards" "pattern" "Ljava/lang/String;" (.ref ps)) (F_firstStar_r0 : Fld Z h0 r0 "com/example/subject/subject/model/Wildcards" "firstStar" "I" (.int (0 : Int32))) (F_lastStar_r0 : Fld Z h0 r0 "com/example/subject/subject/model/Wildcards" "lastStar" "I" (.int (0 : Int32))) (E_r0 : Exa Z h0 r0 "com/example/subject/subject/model/Wildcards") (F_value_ps : Fld Z h0 ps "java/lang/String" "value" "[B" (.ref va)) (F_coder_ps : Fld Z h0 ps "java/lang/String" "coder" "B" (.int (0 : Int32))) (E_ps : Exa Z h0 ps "java/lang/String") (V_va : Arv Z h0 va kc .byte (1 : Int32) [(.int ch)] (.int (0 : Int32))) (F_value_r1 : Fld Z h0 r1 "java/lang/String" "value" "[B" (.ref vb)) (F_coder_r1 : Fld Z h0 r1 "java/lang/String" "coder" "B" (.int (0 : Int32))) (E_r1 : Exa Z h0 r1 "java/lang/String") (V_vb : Arv Z h0 vb kd .byte (1 : Int32) [(.int dh)] (.int (0 : Int32))) (O0 : Old Z n0 h0) (S_cs : Sta Z Z.heap "java/lang/String" "COMPACT_STRINGS" "Z" (.int cs)) (hcs : ¬ (cs = (0 : Int32))) (S_fm : Sta Z Z.heap "jdk/internal/util/Preconditions" "SIOOBE_FORMATTER" "Ljava/util/function/BiFunction;" fm) (hr_fm : fm.isRef = true) (hok_ch : own_ok ch) (hok_dh : own_ok dh) (hcd : ¬ (ch = dh)) :
    MetFree l (⟨"com/example/subject/subject/model/Wildcards", "matches", "(Ljava/lang/String;)Z"⟩ : MethodName) (head1 (Jvm.Cond.code (⟨"com/example/subject/subject/model/Wildcards", "matches", "(Ljava/lang/String;)Z"⟩ : MethodName) prog_51_method_7_code 6 (some .boolean) :: ws) ({ frames := 2, cells := 0, slots := 0, locals := 27 } : Room)) (fun a U => a = #[(.ref r0), (.ref r1)] ∧ Z.Warmed39 U.vm ∧ U.heap = h0) (fun _ _ _ _ _ => True) (fun _ U o U' => ∃ v L, o = .returned v ∧ Q35S Z r0 r1 ps va kc ch vb kd dh cs fm h0 n0 v U'.heap L ∧ FrameEnd U o U' L ({ frames := 2, cells := 0, slots := 0, locals := 27 } : Room).cells ({ frames := 2, cells := 0, slots := 0, locals := 27 } : Room).slots) := by
  refine MetFree.of_bodySF (plainFor_of_name pn0) hisR ?_
  intro p e s m args below meth c s₁ Bd hml0 hP hK
  obtain ⟨rfl, hZ, hh⟩ := hP
  have hx := Bd.exec
  have hby := Bd.bytes
  have hml : c.maxLocals = 6 := hml0
  have hown : s.vm.findClass "com/example/subject/subject/model/Wildcards" = some m.cls := findClass_of_methodNamed Bd.named
  have hnm := (name_of_methodNamed Bd.named Bd.method).1
  have X0 : Stand p l e ({ frames := 2, cells := 0, slots := 0, locals := 27 } : Room) s m #[(.ref r0), (.ref r1)] below meth c s₁ [] 0 0 := Stand.of_body Bd
  have e0 : s₁.heap = h0 := by rw [← hh, Bd.state]; rfl
  have N0 := Fr.nil n0
  have pre0 : ∀ t, Steps p.tables e below (s₁.setTop (mkF m 0 #[rv r0, rv r1, .unset, .unset, .unset, .unset] [])) t → Steps p.tables e below (s₁.setTop (entryFrame m #[(.ref r0), (.ref r1)] 6)) t := fun t k => castTop (ef_35S m r0 r1) k
  have pre1 : ∀ t, Steps p.tables e below (s₁.setTop (mkF m 1 #[rv r0, rv r1, .unset, .unset, .unset, .unset] [(.ref r0)])) t → Steps p.tables e below (s₁.setTop (entryFrame m #[(.ref r0), (.ref r1)] 6)) t := by
    intro t kt
    refine pre0 _ ?_
    show Steps p.tables e below (s₁.setTop (mkF m 0 #[rv r0, rv r1, .unset, .unset, .unset, .unset] [])) _
    refine XS.aloadN X0.here hx rfl (hb hby d35_0) rfl rfl ?_
    exact kt
  obtain ⟨T2, X2, e2, st2⟩ := getF X0 hx hZ hown (host := "") (Or.inl (hw _ (List.mem_of_getElem? (i := 114) rfl))) Via.refl e0 F_firstStar_r0 (g := (mkF m 1 #[rv r0, rv r1, .unset, .unset, .unset, .unset] [(.ref r0)])) rfl rfl (hb hby d35_1)
  have pre3 : ∀ t, Steps p.tables e below (T2.setTop (mkF m 45 #[rv r0, rv r1, .unset, .unset, .unset, .unset] [(.ref r1)])) t → Steps p.tables e below (s₁.setTop (entryFrame m #[(.ref r0), (.ref r1)] 6)) t := by
    intro t kt
    refine pre1 _ ?_
    show Steps p.tables e below (s₁.setTop (mkF m 1 #[rv r0, rv r1, .unset, .unset, .unset, .unset] [(.ref r0)])) _
    refine st2 _ ?_
    show Steps p.tables e below (T2.setTop (mkF m 4 #[rv r0, rv r1, .unset, .unset, .unset, .unset] [(.int (0 : Int32))])) _
    refine XS.ifYes X2.here hx rfl (pc0 := 4) (pc' := 44) rfl (hb hby d35_4) rfl ((if0 _ _).trans (flt (by decide)).2.1) (by decide) (by decide) ?_
    refine XS.aloadN X2.here hx rfl (hb hby d35_44) rfl rfl ?_
    exact kt
  obtain ⟨cq4, kq4, q4a, q4b, q4c⟩ := isOf hZ e2 E_r1
  obtain ⟨_, _, ⟨T4, L4, k4, n4⟩, -, X4, ⟨Lc4, hQ4, l4, y4, z4⟩, st4⟩ := X2.virtualBack hx (y := (⟨"java/lang/String", "length", "()I"⟩ : MethodName)) (z := (⟨"java/lang/String", "length", "()I"⟩ : MethodName)) hown (mvT hZ (hw _ (List.mem_of_getElem? (i := 189) rfl))) (mvT hZ (hw _ (List.mem_of_getElem? (i := 94) rfl))) (notFace_of_selects (args := #[]) (mvT hZ (hw _ (List.mem_of_getElem? (i := 96) rfl)))) (mvT hZ (hw _ (List.mem_of_getElem? (i := 96) rfl))) (mvT hZ (hw _ (List.mem_of_getElem? (i := 95) rfl))) (by decide) (backOf (W := 0) (rm19 l Z a0 hw [] r1 vb kd dh cs h0 n0 (Nat.le_trans Z0 (Keep.refl h0 []).1) F_value_r1 F_coder_r1 E_r1 V_vb (O0.keep (Keep.refl h0 []) all0) S_cs hcs) hZ (hw _ (List.mem_of_getElem? (i := 97) rfl)) (hw _ (List.mem_of_getElem? (i := 7) rfl)) (by decide) (by decide)) q4a q4c (g := (mkF m 45 #[rv r0, rv r1, .unset, .unset, .unset, .unset] [(.ref r1)])) rfl (by rw [hml]; rfl) (Steps.refl _) (argsL := []) (rest := []) (lenOf pd21 rfl) rfl (by show 2 * 0 + _ ≤ _; exact Nat.le_of_eq rfl) (hb hby d35_45) (fun _ _ => ⟨rfl, e2, (by decide : 0 + 0 ≤ _), (by decide : 0 + 0 ≤ _)⟩)
  dsimp only [Pt.U, Pt.locs, Pt.cells, Pt.slots] at X4 l4 y4 z4 st4 hQ4
  subst l4 y4 z4
  obtain ⟨rfl, N4q, hh4⟩ := hQ4
  have N4 := Fr.app N0 N4q
  have pre5 : ∀ t, Steps p.tables e below (T4.setTop (mkF m 49 #[rv r0, rv r1, .unset, .unset, .unset, .unset] [(.ref r0), (.int (1 : Int32))])) t → Steps p.tables e below (s₁.setTop (entryFrame m #[(.ref r0), (.ref r1)] 6)) t := by
    intro t kt
    refine pre3 _ ?_
    show Steps p.tables e below (T2.setTop (mkF m 45 #[rv r0, rv r1, .unset, .unset, .unset, .unset] [(.ref r1)])) _
    refine st4.trans ?_
    show Steps p.tables e below (T4.setTop (mkF m 48 #[rv r0, rv r1, .unset, .unset, .unset, .unset] [(.int (1 : Int32))])) _
    refine XS.aloadN X4.here hx rfl (hb hby d35_48) rfl rfl ?_
    exact kt
  obtain ⟨T6, X6, e6, st6⟩ := getF X4 hx hZ hown (host := "") (Or.inl (hw _ (List.mem_of_getElem? (i := 81) rfl))) Via.refl hh4 F_pattern_r0 (g := (mkF m 49 #[rv r0, rv r1, .unset, .unset, .unset, .unset] [(.ref r0), (.int (1 : Int32))])) rfl rfl (hb hby d35_49)
  have pre7 : ∀ t, Steps p.tables e below (T6.setTop (mkF m 52 #[rv r0, rv r1, .unset, .unset, .unset, .unset] [(.ref ps), (.int (1 : Int32))])) t → Steps p.tables e below (s₁.setTop (entryFrame m #[(.ref r0), (.ref r1)] 6)) t := by
    intro t kt
    refine pre5 _ ?_
    show Steps p.tables e below (T4.setTop (mkF m 49 #[rv r0, rv r1, .unset, .unset, .unset, .unset] [(.ref r0), (.int (1 : Int32))])) _
    refine st6 _ ?_
    exact kt
  obtain ⟨cq8, kq8, q8a, q8b, q8c⟩ := isOf hZ e6 E_ps
  obtain ⟨_, _, ⟨T8, L8, k8, n8⟩, -, X8, ⟨Lc8, hQ8, l8, y8, z8⟩, st8⟩ := X6.virtualBack hx (y := (⟨"java/lang/String", "length", "()I"⟩ : MethodName)) (z := (⟨"java/lang/String", "length", "()I"⟩ : MethodName)) hown (mvT hZ (hw _ (List.mem_of_getElem? (i := 189) rfl))) (mvT hZ (hw _ (List.mem_of_getElem? (i := 94) rfl))) (notFace_of_selects (args := #[]) (mvT hZ (hw _ (List.mem_of_getElem? (i := 96) rfl)))) (mvT hZ (hw _ (List.mem_of_getElem? (i := 96) rfl))) (mvT hZ (hw _ (List.mem_of_getElem? (i := 95) rfl))) (by decide) (backOf (W := 1) (rm19 l Z a0 hw [] ps va kc ch cs h0 n0 (Nat.le_trans Z0 (Keep.refl h0 []).1) F_value_ps F_coder_ps E_ps V_va (O0.keep (Keep.refl h0 []) all0) S_cs hcs) hZ (hw _ (List.mem_of_getElem? (i := 97) rfl)) (hw _ (List.mem_of_getElem? (i := 7) rfl)) (by decide) (by decide)) q8a q8c (g := (mkF m 52 #[rv r0, rv r1, .unset, .unset, .unset, .unset] [(.ref ps), (.int (1 : Int32))])) rfl (by rw [hml]; rfl) (Steps.refl _) (argsL := []) (rest := [(.int (1 : Int32))]) (lenOf pd21 rfl) rfl (by show 2 * 0 + _ ≤ _; exact Nat.le_of_eq rfl) (hb hby d35_52) (fun _ _ => ⟨rfl, e6, (by decide : 0 + 0 ≤ _), (by decide : 0 + 0 ≤ _)⟩)
  dsimp only [Pt.U, Pt.locs, Pt.cells, Pt.slots] at X8 l8 y8 z8 st8 hQ8
  subst l8 y8 z8
  obtain ⟨rfl, N8q, hh8⟩ := hQ8
  have N8 := Fr.app N4 N8q
  have pre9 : ∀ t, Steps p.tables e below (T8.setTop (mkF m 56 #[rv r0, rv r1, .unset, .unset, .unset, .unset] [(.ref r0), (.int (1 : Int32)), (.int (1 : Int32))])) t → Steps p.tables e below (s₁.setTop (entryFrame m #[(.ref r0), (.ref r1)] 6)) t := by
    intro t kt
    refine pre7 _ ?_
    show Steps p.tables e below (T6.setTop (mkF m 52 #[rv r0, rv r1, .unset, .unset, .unset, .unset] [(.ref ps), (.int (1 : Int32))])) _
    refine st8.trans ?_
    show Steps p.tables e below (T8.setTop (mkF m 55 #[rv r0, rv r1, .unset, .unset, .unset, .unset] [(.int (1 : Int32)), (.int (1 : Int32))])) _
    refine XS.aloadN X8.here hx rfl (hb hby d35_55) rfl rfl ?_
    exact kt
  obtain ⟨T10, X10, e10, st10⟩ := getF X8 hx hZ hown (host := "") (Or.inl (hw _ (List.mem_of_getElem? (i := 129) rfl))) Via.refl hh8 F_lastStar_r0 (g := (mkF m 56 #[rv r0, rv r1, .unset, .unset, .unset, .unset] [(.ref r0), (.int (1 : Int32)), (.int (1 : Int32))])) rfl rfl (hb hby d35_56)
  have pre11 : ∀ t, Steps p.tables e below (T10.setTop (mkF m 66 #[rv r0, rv r1, iv (1 : Int32), .unset, .unset, .unset] [(.ref r0), (.int (1 : Int32))])) t → Steps p.tables e below (s₁.setTop (entryFrame m #[(.ref r0), (.ref r1)] 6)) t := by
    intro t kt
    refine pre9 _ ?_
    show Steps p.tables e below (T8.setTop (mkF m 56 #[rv r0, rv r1, .unset, .unset, .unset, .unset] [(.ref r0), (.int (1 : Int32)), (.int (1 : Int32))])) _
    refine st10 _ ?_
    show Steps p.tables e below (T10.setTop (mkF m 59 #[rv r0, rv r1, .unset, .unset, .unset, .unset] [(.int (0 : Int32)), (.int (1 : Int32)), (.int (1 : Int32))])) _
    refine XS.isub X10.here hx rfl (hb hby d35_59) rfl ?_
    show Steps p.tables e below (T10.setTop (mkF m 60 #[rv r0, rv r1, .unset, .unset, .unset, .unset] [(.int ((1 : Int32) - (0 : Int32))), (.int (1 : Int32))])) _
    rw [show ((1 : Int32) - (0 : Int32)) = (1 : Int32) from (by decide)]
    show Steps p.tables e below (T10.setTop (mkF m 60 #[rv r0, rv r1, .unset, .unset, .unset, .unset] [(.int (1 : Int32)), (.int (1 : Int32))])) _
    refine XS.iconst X10.here hx rfl (hb hby d35_60) ?_
    refine XS.isub X10.here hx rfl (hb hby d35_61) rfl ?_
    show Steps p.tables e below (T10.setTop (mkF m 62 #[rv r0, rv r1, .unset, .unset, .unset, .unset] [(.int ((1 : Int32) - (1 : Int32))), (.int (1 : Int32))])) _
    rw [show ((1 : Int32) - (1 : Int32)) = (0 : Int32) from (by decide)]
    show Steps p.tables e below (T10.setTop (mkF m 62 #[rv r0, rv r1, .unset, .unset, .unset, .unset] [(.int (0 : Int32)), (.int (1 : Int32))])) _
    refine XS.isub X10.here hx rfl (hb hby d35_62) rfl ?_
    show Steps p.tables e below (T10.setTop (mkF m 63 #[rv r0, rv r1, .unset, .unset, .unset, .unset] [(.int ((1 : Int32) - (0 : Int32)))])) _
    rw [show ((1 : Int32) - (0 : Int32)) = (1 : Int32) from (by decide)]
    show Steps p.tables e below (T10.setTop (mkF m 63 #[rv r0, rv r1, .unset, .unset, .unset, .unset] [(.int (1 : Int32))])) _
    refine XS.istoreN X10.here hx rfl (hb hby d35_63) rfl (l' := #[rv r0, rv r1, iv (1 : Int32), .unset, .unset, .unset]) rfl ?_
    refine XS.iloadN X10.here hx rfl (hb hby d35_64) rfl ?_
    refine XS.aloadN X10.here hx rfl (hb hby d35_65) rfl rfl ?_
    exact kt
  obtain ⟨T12, X12, e12, st12⟩ := getF X10 hx hZ hown (host := "") (Or.inl (hw _ (List.mem_of_getElem? (i := 114) rfl))) Via.refl e10 F_firstStar_r0 (g := (mkF m 66 #[rv r0, rv r1, iv (1 : Int32), .unset, .unset, .unset] [(.ref r0), (.int (1 : Int32))])) rfl rfl (hb hby d35_66)
  have pre13 : ∀ t, Steps p.tables e below (T12.setTop (mkF m 75 #[rv r0, rv r1, iv (1 : Int32), .unset, .unset, .unset] [(.ref r0), (.int (0 : Int32)), (.ref r0)])) t → Steps p.tables e below (s₁.setTop (entryFrame m #[(.ref r0), (.ref r1)] 6)) t := by
    intro t kt
    refine pre11 _ ?_
    show Steps p.tables e below (T10.setTop (mkF m 66 #[rv r0, rv r1, iv (1 : Int32), .unset, .unset, .unset] [(.ref r0), (.int (1 : Int32))])) _
    refine st12 _ ?_
    show Steps p.tables e below (T12.setTop (mkF m 69 #[rv r0, rv r1, iv (1 : Int32), .unset, .unset, .unset] [(.int (0 : Int32)), (.int (1 : Int32))])) _
    refine XS.icmpNo X12.here hx rfl (hb hby d35_69) rfl (flt (by decide)).1 ?_
    refine XS.aloadN X12.here hx rfl (hb hby d35_72) rfl rfl ?_
    refine XS.iconst X12.here hx rfl (hb hby d35_73) ?_
    refine XS.aloadN X12.here hx rfl (hb hby d35_74) rfl rfl ?_
    exact kt
  obtain ⟨T14, X14, e14, st14⟩ := getF X12 hx hZ hown (host := "") (Or.inl (hw _ (List.mem_of_getElem? (i := 114) rfl))) Via.refl e12 F_firstStar_r0 (g := (mkF m 75 #[rv r0, rv r1, iv (1 : Int32), .unset, .unset, .unset] [(.ref r0), (.int (0 : Int32)), (.ref r0)])) rfl rfl (hb hby d35_75)
  have pre15 : ∀ t, Steps p.tables e below (T14.setTop (mkF m 80 #[rv r0, rv r1, iv (1 : Int32), .unset, .unset, .unset] [(.int (0 : Int32)), (.ref r1), (.int (0 : Int32)), (.int (0 : Int32)), (.ref r0)])) t → Steps p.tables e below (s₁.setTop (entryFrame m #[(.ref r0), (.ref r1)] 6)) t := by
    intro t kt
    refine pre13 _ ?_
    show Steps p.tables e below (T12.setTop (mkF m 75 #[rv r0, rv r1, iv (1 : Int32), .unset, .unset, .unset] [(.ref r0), (.int (0 : Int32)), (.ref r0)])) _
    refine st14 _ ?_
    show Steps p.tables e below (T14.setTop (mkF m 78 #[rv r0, rv r1, iv (1 : Int32), .unset, .unset, .unset] [(.int (0 : Int32)), (.int (0 : Int32)), (.ref r0)])) _
    refine XS.aloadN X14.here hx rfl (hb hby d35_78) rfl rfl ?_
    refine XS.iconst X14.here hx rfl (hb hby d35_79) ?_
    exact kt
  obtain ⟨cq16, q16, q16'⟩ := E_r0.cell
  obtain ⟨_, _, ⟨T16, L16, k16, n16⟩, -, X16, ⟨Lc16, hQ16, l16, y16, z16⟩, st16⟩ := X14.privateBack hx (y := (⟨"com/example/subject/subject/model/Wildcards", "fitsAt", "(IILjava/lang/String;I)Z"⟩ : MethodName)) hown (mvT hZ (hw _ (List.mem_of_getElem? (i := 190) rfl))) (mvT hZ (hw _ (List.mem_of_getElem? (i := 191) rfl))) (own_selp (y := (⟨"com/example/subject/subject/model/Wildcards", "fitsAt", "(IILjava/lang/String;I)Z"⟩ : MethodName)) (mvT hZ (hw _ (List.mem_of_getElem? (i := 76) rfl))) (Cond.privateMethod_at (mvP hZ (hw _ (List.mem_of_getElem? (i := 192) rfl)) (args := #[]))) (mvT hZ (hw _ (List.mem_of_getElem? (i := 191) rfl))) (by decide)) (Cond.privateMethod_at (mvP hZ (hw _ (List.mem_of_getElem? (i := 192) rfl)) (args := #[]))) (mvT hZ (hw _ (List.mem_of_getElem? (i := 193) rfl))) (by decide) (backOf (W := 0) (rm36b l Z a0 hw [] r0 r1 ps va kc ch vb kd dh cs fm h0 n0 (Nat.le_trans Z0 (Keep.refl h0 []).1) F_pattern_r0 F_firstStar_r0 F_lastStar_r0 E_r0 F_value_ps F_coder_ps E_ps V_va F_value_r1 F_coder_r1 E_r1 V_vb (O0.keep (Keep.refl h0 []) all0) S_cs hcs S_fm hr_fm hok_ch hok_dh hcd) hZ (hw _ (List.mem_of_getElem? (i := 193) rfl)) (hw _ (List.mem_of_getElem? (i := 3) rfl)) (by decide) (by decide)) (g := (mkF m 80 #[rv r0, rv r1, iv (1 : Int32), .unset, .unset, .unset] [(.int (0 : Int32)), (.ref r1), (.int (0 : Int32)), (.int (0 : Int32)), (.ref r0)])) rfl (by rw [hml]; rfl) (Steps.refl _) (a := r0) (by rw [e14]; exact q16) q16' (argsL := [(.int (0 : Int32)), (.int (0 : Int32)), (.ref r1), (.int (0 : Int32))]) (rest := []) (lenOf pd31 rfl) rfl (by show 2 * 0 + _ ≤ _; exact Nat.le_of_eq rfl) (hb hby d35_80) (fun _ _ => ⟨rfl, e14, (by decide : 0 + 0 ≤ _), (by decide : 0 + 0 ≤ _)⟩)
  dsimp only [Pt.U, Pt.locs, Pt.cells, Pt.slots] at X16 l16 y16 z16 st16 hQ16
  subst l16 y16 z16
  obtain ⟨rfl, N16q, hh16⟩ := hQ16
  have N16 := Fr.app N8 N16q
  have pre17 : ∀ t, Steps p.tables e below (T16.setTop (mkF m 88 #[rv r0, rv r1, iv (1 : Int32), .unset, .unset, .unset] [(.ref r0), (.ref r0)])) t → Steps p.tables e below (s₁.setTop (entryFrame m #[(.ref r0), (.ref r1)] 6)) t := by
    intro t kt
    refine pre15 _ ?_
    show Steps p.tables e below (T14.setTop (mkF m 80 #[rv r0, rv r1, iv (1 : Int32), .unset, .unset, .unset] [(.int (0 : Int32)), (.ref r1), (.int (0 : Int32)), (.int (0 : Int32)), (.ref r0)])) _
    refine st16.trans ?_
    show Steps p.tables e below (T16.setTop (mkF m 83 #[rv r0, rv r1, iv (1 : Int32), .unset, .unset, .unset] [(.int (1 : Int32))])) _
    refine XS.ifNo X16.here hx rfl (hb hby d35_83) rfl ((if0 _ _).trans (feq (by decide)).1) ?_
    refine XS.aloadN X16.here hx rfl (hb hby d35_86) rfl rfl ?_
    refine XS.aloadN X16.here hx rfl (hb hby d35_87) rfl rfl ?_
    exact kt
  obtain ⟨T18, X18, e18, st18⟩ := getF X16 hx hZ hown (host := "") (Or.inl (hw _ (List.mem_of_getElem? (i := 129) rfl))) Via.refl hh16 F_lastStar_r0 (g := (mkF m 88 #[rv r0, rv r1, iv (1 : Int32), .unset, .unset, .unset] [(.ref r0), (.ref r0)])) rfl rfl (hb hby d35_88)
  have pre19 : ∀ t, Steps p.tables e below (T18.setTop (mkF m 94 #[rv r0, rv r1, iv (1 : Int32), .unset, .unset, .unset] [(.ref r0), (.int (1 : Int32)), (.ref r0)])) t → Steps p.tables e below (s₁.setTop (entryFrame m #[(.ref r0), (.ref r1)] 6)) t := by
    intro t kt
    refine pre17 _ ?_
    show Steps p.tables e below (T16.setTop (mkF m 88 #[rv r0, rv r1, iv (1 : Int32), .unset, .unset, .unset] [(.ref r0), (.ref r0)])) _
    refine st18 _ ?_
    show Steps p.tables e below (T18.setTop (mkF m 91 #[rv r0, rv r1, iv (1 : Int32), .unset, .unset, .unset] [(.int (0 : Int32)), (.ref r0)])) _
    refine XS.iconst X18.here hx rfl (hb hby d35_91) ?_
    refine XS.iadd X18.here hx rfl (hb hby d35_92) rfl ?_
    show Steps p.tables e below (T18.setTop (mkF m 93 #[rv r0, rv r1, iv (1 : Int32), .unset, .unset, .unset] [(.int ((0 : Int32) + (1 : Int32))), (.ref r0)])) _
    rw [show ((0 : Int32) + (1 : Int32)) = (1 : Int32) from (by decide)]
    show Steps p.tables e below (T18.setTop (mkF m 93 #[rv r0, rv r1, iv (1 : Int32), .unset, .unset, .unset] [(.int (1 : Int32)), (.ref r0)])) _
    refine XS.aloadN X18.here hx rfl (hb hby d35_93) rfl rfl ?_
    exact kt
  obtain ⟨T20, X20, e20, st20⟩ := getF X18 hx hZ hown (host := "") (Or.inl (hw _ (List.mem_of_getElem? (i := 81) rfl))) Via.refl e18 F_pattern_r0 (g := (mkF m 94 #[rv r0, rv r1, iv (1 : Int32), .unset, .unset, .unset] [(.ref r0), (.int (1 : Int32)), (.ref r0)])) rfl rfl (hb hby d35_94)
  have pre21 : ∀ t, Steps p.tables e below (T20.setTop (mkF m 97 #[rv r0, rv r1, iv (1 : Int32), .unset, .unset, .unset] [(.ref ps), (.int (1 : Int32)), (.ref r0)])) t → Steps p.tables e below (s₁.setTop (entryFrame m #[(.ref r0), (.ref r1)] 6)) t := by
    intro t kt
    refine pre19 _ ?_
    show Steps p.tables e below (T18.setTop (mkF m 94 #[rv r0, rv r1, iv (1 : Int32), .unset, .unset, .unset] [(.ref r0), (.int (1 : Int32)), (.ref r0)])) _
    refine st20 _ ?_
    exact kt
  obtain ⟨cq22, kq22, q22a, q22b, q22c⟩ := isOf hZ e20 E_ps
  obtain ⟨_, _, ⟨T22, L22, k22, n22⟩, -, X22, ⟨Lc22, hQ22, l22, y22, z22⟩, st22⟩ := X20.virtualBack hx (y := (⟨"java/lang/String", "length", "()I"⟩ : MethodName)) (z := (⟨"java/lang/String", "length", "()I"⟩ : MethodName)) hown (mvT hZ (hw _ (List.mem_of_getElem? (i := 189) rfl))) (mvT hZ (hw _ (List.mem_of_getElem? (i := 94) rfl))) (notFace_of_selects (args := #[]) (mvT hZ (hw _ (List.mem_of_getElem? (i := 96) rfl)))) (mvT hZ (hw _ (List.mem_of_getElem? (i := 96) rfl))) (mvT hZ (hw _ (List.mem_of_getElem? (i := 95) rfl))) (by decide) (backOf (W := 2) (rm19 l Z a0 hw [] ps va kc ch cs h0 n0 (Nat.le_trans Z0 (Keep.refl h0 []).1) F_value_ps F_coder_ps E_ps V_va (O0.keep (Keep.refl h0 []) all0) S_cs hcs) hZ (hw _ (List.mem_of_getElem? (i := 97) rfl)) (hw _ (List.mem_of_getElem? (i := 7) rfl)) (by decide) (by decide)) q22a q22c (g := (mkF m 97 #[rv r0, rv r1, iv (1 : Int32), .unset, .unset, .unset] [(.ref ps), (.int (1 : Int32)), (.ref r0)])) rfl (by rw [hml]; rfl) (Steps.refl _) (argsL := []) (rest := [(.int (1 : Int32)), (.ref r0)]) (lenOf pd21 rfl) rfl (by show 2 * 0 + _ ≤ _; exact Nat.le_of_eq rfl) (hb hby d35_97) (fun _ _ => ⟨rfl, e20, (by decide : 0 + 0 ≤ _), (by decide : 0 + 0 ≤ _)⟩)
  dsimp only [Pt.U, Pt.locs, Pt.cells, Pt.slots] at X22 l22 y22 z22 st22 hQ22
  subst l22 y22 z22
  obtain ⟨rfl, N22q, hh22⟩ := hQ22
  have N22 := Fr.app N16 N22q
  have pre23 : ∀ t, Steps p.tables e below (T22.setTop (mkF m 102 #[rv r0, rv r1, iv (1 : Int32), .unset, .unset, .unset] [(.int (1 : Int32)), (.ref r1), (.int (1 : Int32)), (.int (1 : Int32)), (.ref r0)])) t → Steps p.tables e below (s₁.setTop (entryFrame m #[(.ref r0), (.ref r1)] 6)) t := by
    intro t kt
    refine pre21 _ ?_
    show Steps p.tables e below (T20.setTop (mkF m 97 #[rv r0, rv r1, iv (1 : Int32), .unset, .unset, .unset] [(.ref ps), (.int (1 : Int32)), (.ref r0)])) _
    refine st22.trans ?_
    show Steps p.tables e below (T22.setTop (mkF m 100 #[rv r0, rv r1, iv (1 : Int32), .unset, .unset, .unset] [(.int (1 : Int32)), (.int (1 : Int32)), (.ref r0)])) _
    refine XS.aloadN X22.here hx rfl (hb hby d35_100) rfl rfl ?_
    refine XS.iloadN X22.here hx rfl (hb hby d35_101) rfl ?_
    exact kt
  obtain ⟨cq24, q24, q24'⟩ := E_r0.cell
  obtain ⟨_, _, ⟨T24, L24, k24, n24⟩, -, X24, ⟨Lc24, hQ24, l24, y24, z24⟩, st24⟩ := X22.privateBack hx (y := (⟨"com/example/subject/subject/model/Wildcards", "fitsAt", "(IILjava/lang/String;I)Z"⟩ : MethodName)) hown (mvT hZ (hw _ (List.mem_of_getElem? (i := 190) rfl))) (mvT hZ (hw _ (List.mem_of_getElem? (i := 191) rfl))) (own_selp (y := (⟨"com/example/subject/subject/model/Wildcards", "fitsAt", "(IILjava/lang/String;I)Z"⟩ : MethodName)) (mvT hZ (hw _ (List.mem_of_getElem? (i := 76) rfl))) (Cond.privateMethod_at (mvP hZ (hw _ (List.mem_of_getElem? (i := 192) rfl)) (args := #[]))) (mvT hZ (hw _ (List.mem_of_getElem? (i := 191) rfl))) (by decide)) (Cond.privateMethod_at (mvP hZ (hw _ (List.mem_of_getElem? (i := 192) rfl)) (args := #[]))) (mvT hZ (hw _ (List.mem_of_getElem? (i := 193) rfl))) (by decide) (backOf (W := 0) (rm36dh l Z a0 hw [] r0 r1 ps va kc ch vb kd dh cs fm h0 n0 (Nat.le_trans Z0 (Keep.refl h0 []).1) F_pattern_r0 F_firstStar_r0 F_lastStar_r0 E_r0 F_value_ps F_coder_ps E_ps V_va F_value_r1 F_coder_r1 E_r1 V_vb (O0.keep (Keep.refl h0 []) all0) S_cs hcs S_fm hr_fm hok_ch hok_dh hcd) hZ (hw _ (List.mem_of_getElem? (i := 193) rfl)) (hw _ (List.mem_of_getElem? (i := 3) rfl)) (by decide) (by decide)) (g := (mkF m 102 #[rv r0, rv r1, iv (1 : Int32), .unset, .unset, .unset] [(.int (1 : Int32)), (.ref r1), (.int (1 : Int32)), (.int (1 : Int32)), (.ref r0)])) rfl (by rw [hml]; rfl) (Steps.refl _) (a := r0) (by rw [hh22]; exact q24) q24' (argsL := [(.int (1 : Int32)), (.int (1 : Int32)), (.ref r1), (.int (1 : Int32))]) (rest := []) (lenOf pd31 rfl) rfl (by show 2 * 0 + _ ≤ _; exact Nat.le_of_eq rfl) (hb hby d35_102) (fun _ _ => ⟨rfl, hh22, (by decide : 0 + 0 ≤ _), (by decide : 0 + 0 ≤ _)⟩)
  dsimp only [Pt.U, Pt.locs, Pt.cells, Pt.slots] at X24 l24 y24 z24 st24 hQ24
  subst l24 y24 z24
  obtain ⟨rfl, N24q, hh24⟩ := hQ24
  have N24 := Fr.app N22 N24q
  have pre25 : ∀ t, Steps p.tables e below (T24.setTop (mkF m 111 #[rv r0, rv r1, iv (1 : Int32), .unset, .unset, .unset] [(.ref r0)])) t → Steps p.tables e below (s₁.setTop (entryFrame m #[(.ref r0), (.ref r1)] 6)) t := by
    intro t kt
    refine pre23 _ ?_
    show Steps p.tables e below (T22.setTop (mkF m 102 #[rv r0, rv r1, iv (1 : Int32), .unset, .unset, .unset] [(.int (1 : Int32)), (.ref r1), (.int (1 : Int32)), (.int (1 : Int32)), (.ref r0)])) _
    refine st24.trans ?_
    show Steps p.tables e below (T24.setTop (mkF m 105 #[rv r0, rv r1, iv (1 : Int32), .unset, .unset, .unset] [(.int (1 : Int32))])) _
    refine XS.ifYes X24.here hx rfl (pc0 := 105) (pc' := 110) rfl (hb hby d35_105) rfl ((if0 _ _).trans (feq (by decide)).2) (by decide) (by decide) ?_
    refine XS.aloadN X24.here hx rfl (hb hby d35_110) rfl rfl ?_
    exact kt
  obtain ⟨T26, X26, e26, st26⟩ := getF X24 hx hZ hown (host := "") (Or.inl (hw _ (List.mem_of_getElem? (i := 114) rfl))) Via.refl hh24 F_firstStar_r0 (g := (mkF m 111 #[rv r0, rv r1, iv (1 : Int32), .unset, .unset, .unset] [(.ref r0)])) rfl rfl (hb hby d35_111)
  have pre27 : ∀ t, Steps p.tables e below (T26.setTop (mkF m 116 #[rv r0, rv r1, iv (1 : Int32), iv (0 : Int32), .unset, .unset] [(.ref r0)])) t → Steps p.tables e below (s₁.setTop (entryFrame m #[(.ref r0), (.ref r1)] 6)) t := by
    intro t kt
    refine pre25 _ ?_
    show Steps p.tables e below (T24.setTop (mkF m 111 #[rv r0, rv r1, iv (1 : Int32), .unset, .unset, .unset] [(.ref r0)])) _
    refine st26 _ ?_
    show Steps p.tables e below (T26.setTop (mkF m 114 #[rv r0, rv r1, iv (1 : Int32), .unset, .unset, .unset] [(.int (0 : Int32))])) _
    refine XS.istoreN X26.here hx rfl (hb hby d35_114) rfl (l' := #[rv r0, rv r1, iv (1 : Int32), iv (0 : Int32), .unset, .unset]) rfl ?_
    refine XS.aloadN X26.here hx rfl (hb hby d35_115) rfl rfl ?_
    exact kt
  obtain ⟨T28, X28, e28, st28⟩ := getF X26 hx hZ hown (host := "") (Or.inl (hw _ (List.mem_of_getElem? (i := 114) rfl))) Via.refl e26 F_firstStar_r0 (g := (mkF m 116 #[rv r0, rv r1, iv (1 : Int32), iv (0 : Int32), .unset, .unset] [(.ref r0)])) rfl rfl (hb hby d35_116)
  have pre29 : ∀ t, Steps p.tables e below (T28.setTop (mkF m 124 #[rv r0, rv r1, iv (1 : Int32), iv (0 : Int32), iv (0 : Int32), .unset] [(.ref r0), (.int (0 : Int32))])) t → Steps p.tables e below (s₁.setTop (entryFrame m #[(.ref r0), (.ref r1)] 6)) t := by
    intro t kt
    refine pre27 _ ?_
    show Steps p.tables e below (T26.setTop (mkF m 116 #[rv r0, rv r1, iv (1 : Int32), iv (0 : Int32), .unset, .unset] [(.ref r0)])) _
    refine st28 _ ?_
    show Steps p.tables e below (T28.setTop (mkF m 119 #[rv r0, rv r1, iv (1 : Int32), iv (0 : Int32), .unset, .unset] [(.int (0 : Int32))])) _
    refine XS.istore X28.here hx rfl (hb hby d35_119) rfl (l' := #[rv r0, rv r1, iv (1 : Int32), iv (0 : Int32), iv (0 : Int32), .unset]) rfl ?_
    refine XS.iload X28.here hx rfl (hb hby d35_121) rfl ?_
    refine XS.aloadN X28.here hx rfl (hb hby d35_123) rfl rfl ?_
    exact kt
  obtain ⟨T30, X30, e30, st30⟩ := getF X28 hx hZ hown (host := "") (Or.inl (hw _ (List.mem_of_getElem? (i := 129) rfl))) Via.refl e28 F_lastStar_r0 (g := (mkF m 124 #[rv r0, rv r1, iv (1 : Int32), iv (0 : Int32), iv (0 : Int32), .unset] [(.ref r0), (.int (0 : Int32))])) rfl rfl (hb hby d35_124)
  have pre31 : ∀ t, Steps p.tables e below (T30.setTop (mkF m 174 #[rv r0, rv r1, iv (1 : Int32), iv (0 : Int32), iv (0 : Int32), .unset] [(.int (1 : Int32))])) t → Steps p.tables e below (s₁.setTop (entryFrame m #[(.ref r0), (.ref r1)] 6)) t := by
    intro t kt
    refine pre29 _ ?_
    show Steps p.tables e below (T28.setTop (mkF m 124 #[rv r0, rv r1, iv (1 : Int32), iv (0 : Int32), iv (0 : Int32), .unset] [(.ref r0), (.int (0 : Int32))])) _
    refine st30 _ ?_
    show Steps p.tables e below (T30.setTop (mkF m 127 #[rv r0, rv r1, iv (1 : Int32), iv (0 : Int32), iv (0 : Int32), .unset] [(.int (0 : Int32)), (.int (0 : Int32))])) _
    refine XS.icmpYes X30.here hx rfl (pc0 := 127) (pc' := 173) rfl (hb hby d35_127) rfl (flt (by decide)).2.1 (by decide) (by decide) ?_
    refine XS.iconst X30.here hx rfl (hb hby d35_173) ?_
    exact kt
  obtain ⟨fs, hr, hrun, hended, hW, hsame⟩ := X30.leave (v := some (.int (1 : Int32))) (fun h => by rw [Bd.returns] at h; cases h)
  refine ⟨_, _, pre31 _ ?_, hrun, hended, _, _, rfl, ?_, ⟨_, rfl⟩, hW, hsame.mono (by decide) (by decide)⟩
  · show Steps p.tables e below (T30.setTop (mkF m 174 #[rv r0, rv r1, iv (1 : Int32), iv (0 : Int32), iv (0 : Int32), .unset] [(.int (1 : Int32))])) _
    exact retN X30 hx (t := .boolean) Bd.returns (by simp) (hb hby d35_174) hr
  · show Q35S Z r0 r1 ps va kc ch vb kd dh cs fm h0 n0 _ T30.heap _
    rw [e30]
    exact ⟨rfl, N24, rfl⟩
theorem own_fitz (ch : Int32) : nar .boolean (own_fit ch) = own_fit ch := by
  unfold own_fit
  split <;> decide
theorem d7_0 : decode prog_51_method_5_code 0 = .ok (.aload_n 0, 1) := by decide +kernel
theorem pd32 : parseMethodDescriptor "(Ljava/lang/String;)Lcom/example/subject/subject/model/Wildcards;" = some ⟨[(.object "java/lang/String")], some (.object "com/example/subject/subject/model/Wildcards")⟩ := by decide +kernel
theorem d7_1 : decode prog_51_method_5_code 1 = .ok (.invokestatic 78, 3) := by decide +kernel
theorem d7_4 : decode prog_51_method_5_code 4 = .ok (.aload_n 1, 1) := by decide +kernel
theorem pd33 : parseMethodDescriptor "(Ljava/lang/String;)Z" = some ⟨[(.object "java/lang/String")], some .boolean⟩ := by decide +kernel
theorem d7_5 : decode prog_51_method_5_code 5 = .ok (.invokevirtual 82, 3) := by decide +kernel
theorem d7_8 : decode prog_51_method_5_code 8 = .ok (.ireturn, 1) := by decide +kernel
theorem ef_7N (m : MethodId) (x0 : Addr) (x1 : Addr) : entryFrame m #[(.ref x0), (.ref x1)] 2 = mkF m 0 #[.val (.ref x0), .val (.ref x1)] [] := by first | (simp [entryFrame, mkF, argsToLocals, Value.category]; done) | rfl
def Q7N (Z : State) (r0 : Addr) (r1 : Addr) (va : Addr) (kc : ClassId) (ch : Int32) (vb : Addr) (kd : ClassId) (dh : Int32) (cs : Int32) (fm : Value) (h0 : Heap) (n0 : Nat) (v : Option Value) (h : Heap) (L : List Loc) : Prop := v = some (.int (own_fit ch)) ∧ Fr n0 L ∧ Keep h0 h []
set_option maxRecDepth 65536 in
set_option maxHeartbeats 40000000 in
theorem rm7N (l : Launch) (Z : State) (a0 : Array Value) (hw : ∀ d ∈ tables_1, d.before a0 Z = true) (ws : List Jvm.Cond) (r0 : Addr) (r1 : Addr) (va : Addr) (kc : ClassId) (ch : Int32) (vb : Addr) (kd : ClassId) (dh : Int32) (cs : Int32) (fm : Value) (h0 : Heap) (n0 : Nat) (Z0 : n0 ≤ h0.size) (F_value_r0 : Fld Z h0 r0 "java/lang/String" "value" "[B" (.ref va)) (F_coder_r0 : Fld Z h0 r0 "java/lang/String" "coder" "B" (.int (0 : Int32))) (E_r0 : Exa Z h0 r0 "java/lang/String") (V_va : Arv Z h0 va kc .byte (1 : Int32) [(.int ch)] (.int (0 : Int32))) (F_value_r1 : Fld Z h0 r1 "java/lang/String" "value" "[B" (.ref vb)) (F_coder_r1 : Fld Z h0 r1 "java/lang/String" "coder" "B" (.int (0 : Int32))) (E_r1 : Exa Z h0 r1 "java/lang/String") (V_vb : Arv Z h0 vb kd .byte (1 : Int32) [(.int dh)] (.int (0 : Int32))) (O0 : Old Z n0 h0) (S_cs : Sta Z Z.heap "java/lang/String" "COMPACT_STRINGS" "Z" (.int cs)) (hcs : ¬ (cs = (0 : Int32))) (S_fm : Sta Z Z.heap "jdk/internal/util/Preconditions" "SIOOBE_FORMATTER" "Ljava/util/function/BiFunction;" fm) (hr_fm : fm.isRef = true) (hok_ch : own_ok ch) (hok_dh : own_ok dh) (hcd : ¬ (ch = dh)) (hix : own_ix ch = (-1 : Int32)) :
    MetFree l (⟨"com/example/subject/subject/model/Wildcards", "matches", "(Ljava/lang/String;Ljava/lang/String;)Z"⟩ : MethodName) (head1 (Jvm.Cond.code (⟨"com/example/subject/subject/model/Wildcards", "matches", "(Ljava/lang/String;Ljava/lang/String;)Z"⟩ : MethodName) prog_51_method_5_code 2 (some .boolean) :: ws) ({ frames := 7, cells := 7, slots := 25, locals := 106 } : Room)) (fun a U => a = #[(.ref r0), (.ref r1)] ∧ Z.Warmed39 U.vm ∧ U.heap = h0 ∧ CHv Z consts_1 U.vm h0) (fun _ _ _ _ _ => True) (fun _ U o U' => ∃ v L, o = .returned v ∧ Q7N Z r0 r1 va kc ch vb kd dh cs fm h0 n0 v U'.heap L ∧ ReturnedEndW U o U' L ({ frames := 7, cells := 7, slots := 25, locals := 106 } : Room).cells ({ frames := 7, cells := 7, slots := 25, locals := 106 } : Room).slots) := by
  refine MetFree.of_bodySF (plainFor_of_name pn0) hisR ?_
  intro p e s m args below meth c s₁ Bd hml0 hP hK
  obtain ⟨rfl, hZ, hh, hH⟩ := hP
  have hx := Bd.exec
  have hby := Bd.bytes
  have hml : c.maxLocals = 2 := hml0
  have hown : s.vm.findClass "com/example/subject/subject/model/Wildcards" = some m.cls := findClass_of_methodNamed Bd.named
  have hnm := (name_of_methodNamed Bd.named Bd.method).1
  have X0 : Stand p l e ({ frames := 7, cells := 7, slots := 25, locals := 106 } : Room) s m #[(.ref r0), (.ref r1)] below meth c s₁ [] 0 0 := Stand.of_body Bd
  have e0 : s₁.heap = h0 := by rw [← hh, Bd.state]; rfl
  have N0 := Fr.nil n0
  have pre0 : ∀ t, Steps p.tables e below (s₁.setTop (mkF m 0 #[rv r0, rv r1] [])) t → Steps p.tables e below (s₁.setTop (entryFrame m #[(.ref r0), (.ref r1)] 2)) t := fun t k => castTop (ef_7N m r0 r1) k
  have hS0 : s.Since s.vm h0.size := (State.WarmedH.refl s).since _
  have pre1 : ∀ t, Steps p.tables e below (s₁.setTop (mkF m 1 #[rv r0, rv r1] [(.ref r0)])) t → Steps p.tables e below (s₁.setTop (entryFrame m #[(.ref r0), (.ref r1)] 2)) t := by
    intro t kt
    refine pre0 _ ?_
    show Steps p.tables e below (s₁.setTop (mkF m 0 #[rv r0, rv r1] [])) _
    refine XS.aloadN X0.here hx rfl (hb hby d7_0) rfl rfl ?_
    exact kt
  obtain ⟨_, _, ⟨T2, L2, k2, n2⟩, -, X2, hSc2, hgr2, ⟨Lc2, hQ2, l2, y2, z2⟩, st2⟩ := callSS X0 hx (y := (⟨"com/example/subject/subject/model/Wildcards", "compile", "(Ljava/lang/String;)Lcom/example/subject/subject/model/Wildcards;"⟩ : MethodName)) hown (mvT hZ (hw _ (List.mem_of_getElem? (i := 34) rfl))) (mvT hZ (hw _ (List.mem_of_getElem? (i := 35) rfl))) (mvT hZ (hw _ (List.mem_of_getElem? (i := 3) rfl))) (mvT hZ (hw _ (List.mem_of_getElem? (i := 36) rfl))) (by decide) (own_backSH (W := 0) (rm8 l Z a0 hw [] r0 va kc ch (-1 : Int32) cs fm h0 n0 (Nat.le_trans Z0 (Keep.refl h0 []).1) F_value_r0 F_coder_r0 E_r0 V_va (O0.keep (Keep.refl h0 []) all0) S_cs hcs S_fm hr_fm hok_ch hix) hZ (hw _ (List.mem_of_getElem? (i := 36) rfl)) (hw _ (List.mem_of_getElem? (i := 3) rfl)) (by decide) (by decide) (own_EW hw) hH) (g := (mkF m 1 #[rv r0, rv r1] [(.ref r0)])) rfl (by rw [hml]; rfl) (argsL := [(.ref r0)]) (rest := []) (lenOf pd32 rfl) rfl (by show 2 * 0 + _ ≤ _; exact Nat.le_of_eq rfl) (hb hby d7_1) (fun _ _ => ⟨rfl, e0, (by decide : 0 + 7 ≤ _), (by decide : 0 + 25 ≤ _)⟩)
  dsimp only [Pt.U, Pt.locs, Pt.cells, Pt.slots] at X2 l2 y2 z2 st2 hQ2 hSc2 hgr2
  subst l2 y2 z2
  obtain ⟨x2, rfl, N2q, Kc2, hy2, Ex2, Fp2, Ff2, Fl2⟩ := hQ2
  have N2 := Fr.app N0 N2q
  obtain ⟨X2, hS2, hZ, hown⟩ := rebS (s := s) (vm0 := s.vm) hS0 (by rw [e0]; exact (Nat.le_refl _)) X2 hSc2 hgr2 hZ hown
  have K2 : Keep h0 T2.heap [] := (Keep.refl h0 []).trans Kc2 all0
  have pre3 : ∀ t, Steps p.tables e below (T2.setTop (mkF m 5 #[rv r0, rv r1] [(.ref r1), (.ref x2)])) t → Steps p.tables e below (s₁.setTop (entryFrame m #[(.ref r0), (.ref r1)] 2)) t := by
    intro t kt
    refine pre1 _ ?_
    show Steps p.tables e below (s₁.setTop (mkF m 1 #[rv r0, rv r1] [(.ref r0)])) _
    refine st2.trans ?_
    show Steps p.tables e below (T2.setTop (mkF m 4 #[rv r0, rv r1] [(.ref x2)])) _
    refine XS.aloadN X2.here hx rfl (hb hby d7_4) rfl rfl ?_
    exact kt
  obtain ⟨cq4, kq4, q4a, q4b, q4c⟩ := isOf hZ rfl Ex2
  obtain ⟨_, _, ⟨T4, L4, k4, n4⟩, -, X4, ⟨Lc4, hQ4, l4, y4, z4⟩, st4⟩ := X2.virtualBack hx (y := (⟨"com/example/subject/subject/model/Wildcards", "matches", "(Ljava/lang/String;)Z"⟩ : MethodName)) (z := (⟨"com/example/subject/subject/model/Wildcards", "matches", "(Ljava/lang/String;)Z"⟩ : MethodName)) hown (mvT hZ (hw _ (List.mem_of_getElem? (i := 184) rfl))) (mvT hZ (hw _ (List.mem_of_getElem? (i := 185) rfl))) (notFace_of_selects (args := #[]) (mvT hZ (hw _ (List.mem_of_getElem? (i := 187) rfl)))) (mvT hZ (hw _ (List.mem_of_getElem? (i := 187) rfl))) (mvT hZ (hw _ (List.mem_of_getElem? (i := 186) rfl))) (by decide) (backOf (W := 0) (rm35N l Z a0 hw [] x2 r1 r0 va kc ch vb kd dh cs fm T2.heap n0 (Nat.le_trans Z0 K2.1) Fp2 Ff2 Fl2 Ex2 (F_value_r0.keep Kc2 nin0) (F_coder_r0.keep Kc2 nin0) (E_r0.keep Kc2) (V_va.keep Kc2 nin0) (F_value_r1.keep Kc2 nin0) (F_coder_r1.keep Kc2 nin0) (E_r1.keep Kc2) (V_vb.keep Kc2 nin0) (O0.keep K2 all0) S_cs hcs S_fm hr_fm hok_ch hok_dh hcd) hZ (hw _ (List.mem_of_getElem? (i := 188) rfl)) (hw _ (List.mem_of_getElem? (i := 3) rfl)) (by decide) (by decide)) q4a q4c (g := (mkF m 5 #[rv r0, rv r1] [(.ref r1), (.ref x2)])) rfl (by rw [hml]; rfl) (Steps.refl _) (argsL := [(.ref r1)]) (rest := []) (lenOf pd33 rfl) rfl (by show 2 * 0 + _ ≤ _; exact Nat.le_of_eq rfl) (hb hby d7_5) (fun _ _ => ⟨rfl, rfl, (by decide : 7 + 0 ≤ _), (by decide : 25 + 0 ≤ _)⟩)
  dsimp only [Pt.U, Pt.locs, Pt.cells, Pt.slots] at X4 l4 y4 z4 st4 hQ4
  subst l4 y4 z4
  obtain ⟨rfl, N4q, hh4⟩ := hQ4
  have N4 := Fr.app N2 N4q
  have pre5 : ∀ t, Steps p.tables e below (T4.setTop (mkF m 8 #[rv r0, rv r1] [(.int (own_fit ch))])) t → Steps p.tables e below (s₁.setTop (entryFrame m #[(.ref r0), (.ref r1)] 2)) t := by
    intro t kt
    refine pre3 _ ?_
    show Steps p.tables e below (T2.setTop (mkF m 5 #[rv r0, rv r1] [(.ref r1), (.ref x2)])) _
    refine st4.trans ?_
    exact kt
  obtain ⟨fs, hr, hrun, hended, hRW⟩ := Jvm.Stand.leaveW (s := s) (vm₁ := T2.vm) X4 hS2 (by rw [hh4]; exact (Nat.le_refl _)) (v := some (.int (nar .boolean (own_fit ch)))) (fun h => by rw [Bd.returns] at h; cases h)
  refine ⟨_, _, pre5 _ ?_, hrun, hended, _, _, rfl, ?_, hRW.1, hRW.2.1, hRW.2.2.1, hRW.2.2.2.mono (by decide) (by decide)⟩
  · show Steps p.tables e below (T4.setTop (mkF m 8 #[rv r0, rv r1] [(.int (own_fit ch))])) _
    exact retN X4 hx (t := .boolean) Bd.returns (by simp) (hb hby d7_8) hr
  · show Q7N Z r0 r1 va kc ch vb kd dh cs fm h0 n0 _ T4.heap _
    rw [hh4]
    exact ⟨congrArg (fun z => some (Value.int z)) (own_fitz ch), N4, K2⟩

theorem ef_7S (m : MethodId) (x0 : Addr) (x1 : Addr) : entryFrame m #[(.ref x0), (.ref x1)] 2 = mkF m 0 #[.val (.ref x0), .val (.ref x1)] [] := by first | (simp [entryFrame, mkF, argsToLocals, Value.category]; done) | rfl
def Q7S (Z : State) (r0 : Addr) (r1 : Addr) (va : Addr) (kc : ClassId) (ch : Int32) (vb : Addr) (kd : ClassId) (dh : Int32) (cs : Int32) (fm : Value) (h0 : Heap) (n0 : Nat) (v : Option Value) (h : Heap) (L : List Loc) : Prop := v = some (.int (1 : Int32)) ∧ Fr n0 L ∧ Keep h0 h []
set_option maxRecDepth 65536 in
set_option maxHeartbeats 40000000 in
theorem rm7S (l : Launch) (Z : State) (a0 : Array Value) (hw : ∀ d ∈ tables_1, d.before a0 Z = true) (ws : List Jvm.Cond) (r0 : Addr) (r1 : Addr) (va : Addr) (kc : ClassId) (ch : Int32) (vb : Addr) (kd : ClassId) (dh : Int32) (cs : Int32) (fm : Value) (h0 : Heap) (n0 : Nat) (Z0 : n0 ≤ h0.size) (F_value_r0 : Fld Z h0 r0 "java/lang/String" "value" "[B" (.ref va)) (F_coder_r0 : Fld Z h0 r0 "java/lang/String" "coder" "B" (.int (0 : Int32))) (E_r0 : Exa Z h0 r0 "java/lang/String") (V_va : Arv Z h0 va kc .byte (1 : Int32) [(.int ch)] (.int (0 : Int32))) (F_value_r1 : Fld Z h0 r1 "java/lang/String" "value" "[B" (.ref vb)) (F_coder_r1 : Fld Z h0 r1 "java/lang/String" "coder" "B" (.int (0 : Int32))) (E_r1 : Exa Z h0 r1 "java/lang/String") (V_vb : Arv Z h0 vb kd .byte (1 : Int32) [(.int dh)] (.int (0 : Int32))) (O0 : Old Z n0 h0) (S_cs : Sta Z Z.heap "java/lang/String" "COMPACT_STRINGS" "Z" (.int cs)) (hcs : ¬ (cs = (0 : Int32))) (S_fm : Sta Z Z.heap "jdk/internal/util/Preconditions" "SIOOBE_FORMATTER" "Ljava/util/function/BiFunction;" fm) (hr_fm : fm.isRef = true) (hok_ch : own_ok ch) (hok_dh : own_ok dh) (hcd : ¬ (ch = dh)) (hix : own_ix ch = (0 : Int32)) :
    MetFree l (⟨"com/example/subject/subject/model/Wildcards", "matches", "(Ljava/lang/String;Ljava/lang/String;)Z"⟩ : MethodName) (head1 (Jvm.Cond.code (⟨"com/example/subject/subject/model/Wildcards", "matches", "(Ljava/lang/String;Ljava/lang/String;)Z"⟩ : MethodName) prog_51_method_5_code 2 (some .boolean) :: ws) ({ frames := 7, cells := 7, slots := 25, locals := 106 } : Room)) (fun a U => a = #[(.ref r0), (.ref r1)] ∧ Z.Warmed39 U.vm ∧ U.heap = h0 ∧ CHv Z consts_1 U.vm h0) (fun _ _ _ _ _ => True) (fun _ U o U' => ∃ v L, o = .returned v ∧ Q7S Z r0 r1 va kc ch vb kd dh cs fm h0 n0 v U'.heap L ∧ ReturnedEndW U o U' L ({ frames := 7, cells := 7, slots := 25, locals := 106 } : Room).cells ({ frames := 7, cells := 7, slots := 25, locals := 106 } : Room).slots) := by
  refine MetFree.of_bodySF (plainFor_of_name pn0) hisR ?_
  intro p e s m args below meth c s₁ Bd hml0 hP hK
  obtain ⟨rfl, hZ, hh, hH⟩ := hP
  have hx := Bd.exec
  have hby := Bd.bytes
  have hml : c.maxLocals = 2 := hml0
  have hown : s.vm.findClass "com/example/subject/subject/model/Wildcards" = some m.cls := findClass_of_methodNamed Bd.named
  have hnm := (name_of_methodNamed Bd.named Bd.method).1
  have X0 : Stand p l e ({ frames := 7, cells := 7, slots := 25, locals := 106 } : Room) s m #[(.ref r0), (.ref r1)] below meth c s₁ [] 0 0 := Stand.of_body Bd
  have e0 : s₁.heap = h0 := by rw [← hh, Bd.state]; rfl
  have N0 := Fr.nil n0
  have pre0 : ∀ t, Steps p.tables e below (s₁.setTop (mkF m 0 #[rv r0, rv r1] [])) t → Steps p.tables e below (s₁.setTop (entryFrame m #[(.ref r0), (.ref r1)] 2)) t := fun t k => castTop (ef_7S m r0 r1) k
  have hS0 : s.Since s.vm h0.size := (State.WarmedH.refl s).since _
  have pre1 : ∀ t, Steps p.tables e below (s₁.setTop (mkF m 1 #[rv r0, rv r1] [(.ref r0)])) t → Steps p.tables e below (s₁.setTop (entryFrame m #[(.ref r0), (.ref r1)] 2)) t := by
    intro t kt
    refine pre0 _ ?_
    show Steps p.tables e below (s₁.setTop (mkF m 0 #[rv r0, rv r1] [])) _
    refine XS.aloadN X0.here hx rfl (hb hby d7_0) rfl rfl ?_
    exact kt
  obtain ⟨_, _, ⟨T2, L2, k2, n2⟩, -, X2, hSc2, hgr2, ⟨Lc2, hQ2, l2, y2, z2⟩, st2⟩ := callSS X0 hx (y := (⟨"com/example/subject/subject/model/Wildcards", "compile", "(Ljava/lang/String;)Lcom/example/subject/subject/model/Wildcards;"⟩ : MethodName)) hown (mvT hZ (hw _ (List.mem_of_getElem? (i := 34) rfl))) (mvT hZ (hw _ (List.mem_of_getElem? (i := 35) rfl))) (mvT hZ (hw _ (List.mem_of_getElem? (i := 3) rfl))) (mvT hZ (hw _ (List.mem_of_getElem? (i := 36) rfl))) (by decide) (own_backSH (W := 0) (rm8 l Z a0 hw [] r0 va kc ch (0 : Int32) cs fm h0 n0 (Nat.le_trans Z0 (Keep.refl h0 []).1) F_value_r0 F_coder_r0 E_r0 V_va (O0.keep (Keep.refl h0 []) all0) S_cs hcs S_fm hr_fm hok_ch hix) hZ (hw _ (List.mem_of_getElem? (i := 36) rfl)) (hw _ (List.mem_of_getElem? (i := 3) rfl)) (by decide) (by decide) (own_EW hw) hH) (g := (mkF m 1 #[rv r0, rv r1] [(.ref r0)])) rfl (by rw [hml]; rfl) (argsL := [(.ref r0)]) (rest := []) (lenOf pd32 rfl) rfl (by show 2 * 0 + _ ≤ _; exact Nat.le_of_eq rfl) (hb hby d7_1) (fun _ _ => ⟨rfl, e0, (by decide : 0 + 7 ≤ _), (by decide : 0 + 25 ≤ _)⟩)
  dsimp only [Pt.U, Pt.locs, Pt.cells, Pt.slots] at X2 l2 y2 z2 st2 hQ2 hSc2 hgr2
  subst l2 y2 z2
  obtain ⟨x2, rfl, N2q, Kc2, hy2, Ex2, Fp2, Ff2, Fl2⟩ := hQ2
  have N2 := Fr.app N0 N2q
  obtain ⟨X2, hS2, hZ, hown⟩ := rebS (s := s) (vm0 := s.vm) hS0 (by rw [e0]; exact (Nat.le_refl _)) X2 hSc2 hgr2 hZ hown
  have K2 : Keep h0 T2.heap [] := (Keep.refl h0 []).trans Kc2 all0
  have pre3 : ∀ t, Steps p.tables e below (T2.setTop (mkF m 5 #[rv r0, rv r1] [(.ref r1), (.ref x2)])) t → Steps p.tables e below (s₁.setTop (entryFrame m #[(.ref r0), (.ref r1)] 2)) t := by
    intro t kt
    refine pre1 _ ?_
    show Steps p.tables e below (s₁.setTop (mkF m 1 #[rv r0, rv r1] [(.ref r0)])) _
    refine st2.trans ?_
    show Steps p.tables e below (T2.setTop (mkF m 4 #[rv r0, rv r1] [(.ref x2)])) _
    refine XS.aloadN X2.here hx rfl (hb hby d7_4) rfl rfl ?_
    exact kt
  obtain ⟨cq4, kq4, q4a, q4b, q4c⟩ := isOf hZ rfl Ex2
  obtain ⟨_, _, ⟨T4, L4, k4, n4⟩, -, X4, ⟨Lc4, hQ4, l4, y4, z4⟩, st4⟩ := X2.virtualBack hx (y := (⟨"com/example/subject/subject/model/Wildcards", "matches", "(Ljava/lang/String;)Z"⟩ : MethodName)) (z := (⟨"com/example/subject/subject/model/Wildcards", "matches", "(Ljava/lang/String;)Z"⟩ : MethodName)) hown (mvT hZ (hw _ (List.mem_of_getElem? (i := 184) rfl))) (mvT hZ (hw _ (List.mem_of_getElem? (i := 185) rfl))) (notFace_of_selects (args := #[]) (mvT hZ (hw _ (List.mem_of_getElem? (i := 187) rfl)))) (mvT hZ (hw _ (List.mem_of_getElem? (i := 187) rfl))) (mvT hZ (hw _ (List.mem_of_getElem? (i := 186) rfl))) (by decide) (backOf (W := 0) (rm35S l Z a0 hw [] x2 r1 r0 va kc ch vb kd dh cs fm T2.heap n0 (Nat.le_trans Z0 K2.1) Fp2 Ff2 Fl2 Ex2 (F_value_r0.keep Kc2 nin0) (F_coder_r0.keep Kc2 nin0) (E_r0.keep Kc2) (V_va.keep Kc2 nin0) (F_value_r1.keep Kc2 nin0) (F_coder_r1.keep Kc2 nin0) (E_r1.keep Kc2) (V_vb.keep Kc2 nin0) (O0.keep K2 all0) S_cs hcs S_fm hr_fm hok_ch hok_dh hcd) hZ (hw _ (List.mem_of_getElem? (i := 188) rfl)) (hw _ (List.mem_of_getElem? (i := 3) rfl)) (by decide) (by decide)) q4a q4c (g := (mkF m 5 #[rv r0, rv r1] [(.ref r1), (.ref x2)])) rfl (by rw [hml]; rfl) (Steps.refl _) (argsL := [(.ref r1)]) (rest := []) (lenOf pd33 rfl) rfl (by show 2 * 0 + _ ≤ _; exact Nat.le_of_eq rfl) (hb hby d7_5) (fun _ _ => ⟨rfl, rfl, (by decide : 7 + 0 ≤ _), (by decide : 25 + 0 ≤ _)⟩)
  dsimp only [Pt.U, Pt.locs, Pt.cells, Pt.slots] at X4 l4 y4 z4 st4 hQ4
  subst l4 y4 z4
  obtain ⟨rfl, N4q, hh4⟩ := hQ4
  have N4 := Fr.app N2 N4q
  have pre5 : ∀ t, Steps p.tables e below (T4.setTop (mkF m 8 #[rv r0, rv r1] [(.int (1 : Int32))])) t → Steps p.tables e below (s₁.setTop (entryFrame m #[(.ref r0), (.ref r1)] 2)) t := by
    intro t kt
    refine pre3 _ ?_
    show Steps p.tables e below (T2.setTop (mkF m 5 #[rv r0, rv r1] [(.ref r1), (.ref x2)])) _
    refine st4.trans ?_
    exact kt
  obtain ⟨fs, hr, hrun, hended, hRW⟩ := Jvm.Stand.leaveW (s := s) (vm₁ := T2.vm) X4 hS2 (by rw [hh4]; exact (Nat.le_refl _)) (v := some (.int (1 : Int32))) (fun h => by rw [Bd.returns] at h; cases h)
  refine ⟨_, _, pre5 _ ?_, hrun, hended, _, _, rfl, ?_, hRW.1, hRW.2.1, hRW.2.2.1, hRW.2.2.2.mono (by decide) (by decide)⟩
  · show Steps p.tables e below (T4.setTop (mkF m 8 #[rv r0, rv r1] [(.int (1 : Int32))])) _
    exact retN X4 hx (t := .boolean) Bd.returns (by simp) (hb hby d7_8) hr
  · show Q7S Z r0 r1 va kc ch vb kd dh cs fm h0 n0 _ T4.heap _
    rw [hh4]
    exact ⟨rfl, N4, K2⟩
theorem own_rem (b : Int32) : 0 ≤ ((b &&& (2147483647 : Int32)) % (127 : Int32)).toInt ∧ ((b &&& (2147483647 : Int32)) % (127 : Int32)).toInt ≤ 126 := by
  have h1 := c_mask b 2147483647 31 (by decide) (by decide)
  have h2 := (c_irem (b &&& 2147483647) 127 127 (by decide)).1 (by omega)
  omega
theorem own_kk (y k : Int32) (h : k = ((1 : Int32) + ((y &&& (2147483647 : Int32)) % (127 : Int32)))) : own_ok k ∧ ¬ (k = (0 : Int32)) := by
  have q := own_rem y
  have e : k.toInt = 1 + ((y &&& (2147483647 : Int32)) % (127 : Int32)).toInt := by
    rw [h, Int32.toInt_add]
    have : (1 : Int32).toInt = 1 := by decide
    rw [this]
    generalize ((y &&& (2147483647 : Int32)) % (127 : Int32)).toInt = z at q
    rw [Int.bmod_eq_of_le] <;> omega
  refine ⟨⟨?_, ?_⟩, ?_⟩
  · simp only [Int32.lt_iff_toInt_lt, Int32.reduceToInt]; omega
  · simp only [Int32.lt_iff_toInt_lt, Int32.reduceToInt]; omega
  · intro z
    rw [z] at e
    have : (0 : Int32).toInt = 0 := by decide
    omega
theorem own_and127 (x : Int32) : own_ok (x &&& (127 : Int32)) := by
  have h1 := c_mask x 127 7 (by decide) (by decide)
  refine ⟨?_, ?_⟩
  · simp only [Int32.lt_iff_toInt_lt, Int32.reduceToInt]; omega
  · simp only [Int32.lt_iff_toInt_lt, Int32.reduceToInt]; omega
theorem own_cd (ch k : Int32) (hc : own_ok ch) (hk : own_ok k) (h0 : ¬ (k = (0 : Int32))) : ¬ (ch = ((ch + k) &&& (127 : Int32))) := by
  have h1 := c_mask (ch + k) 127 7 (by decide) (by decide)
  intro q
  have a0 := hc.1; have a1 := hc.2; have b0 := hk.1; have b1 := hk.2
  have e : (ch + k).toInt = ch.toInt + k.toInt := by
    rw [Int32.toInt_add]
    simp only [Int32.lt_iff_toInt_lt, Int32.reduceToInt] at a0 a1 b0 b1
    rw [Int.bmod_eq_of_le] <;> omega
  have k0 : k.toInt ≠ 0 := fun z => h0 (Int32.toInt_inj.mp (z.trans (by decide)))
  have q' := congrArg Int32.toInt q
  simp only [Int32.lt_iff_toInt_lt, Int32.reduceToInt] at a0 a1 b0 b1
  omega
theorem own_isw0 {ch : Int32} (h : ch < (0 : Int32)) : own_isw ch = (0 : Int32) := by
  unfold own_isw
  rw [if_neg (fun q => by rw [q] at h; exact absurd h (by decide)), if_neg (fun q => by rw [q] at h; exact absurd h (by decide))]
theorem own_isw128 {ch : Int32} (h : ¬ (ch < (128 : Int32))) : own_isw ch = (0 : Int32) := by
  unfold own_isw
  rw [if_neg (fun q => by rw [q] at h; exact absurd (by decide) h), if_neg (fun q => by rw [q] at h; exact absurd (by decide) h)]
theorem own_iswN {ch : Int32} (h : ¬ (ch = (42 : Int32))) : own_isw ch = own_fit ch := by
  unfold own_isw own_fit
  rw [if_neg h]
theorem pn34 : plainName "com/example/subject/subject/model/WildcardsIsWildcardPinLaw" = true := by first | (simp [plainName, overriddenIn]; done) | decide +kernel
theorem pd35 : parseMethodDescriptor "(C)Ljava/lang/String;" = some ⟨[.char], some (.object "java/lang/String")⟩ := by decide +kernel
theorem pd36 : parseMethodDescriptor "(Ljava/lang/String;Ljava/lang/String;)Z" = some ⟨[(.object "java/lang/String"), (.object "java/lang/String")], some .boolean⟩ := by decide +kernel
theorem ef_0 (m : MethodId) (x0 : Int32) (x1 : Int32) (x2 : Int32) : entryFrame m #[(.int x0), (.int x1), (.int x2)] maxLocals = mkF m 0 #[.val (.int x0), .val (.int x1), .val (.int x2), .unset, .unset, .unset, .unset, .unset] [] := by first | (simp [entryFrame, mkF, argsToLocals, Value.category, maxLocals]; done) | rfl
def Q0 (Z : State) (p0 : Int32) (p1 : Int32) (p2 : Int32) (cs : Int32) (fm : Value) (h0 : Heap) (n0 : Nat) (v : Option Value) (h : Heap) (L : List Loc) : Prop := v = some (.int 1) ∧ Fr n0 L
set_option maxRecDepth 65536 in
set_option maxHeartbeats 40000000 in
theorem rm0 (l : Launch) (Z : State) (a0 : Array Value) (hw : ∀ d ∈ tables_1, d.before a0 Z = true) (ws : List Jvm.Cond) (p0 : Int32) (p1 : Int32) (p2 : Int32) (cs : Int32) (fm : Value) (h0 : Heap) (n0 : Nat) (Z0 : n0 ≤ h0.size) (O0 : Old Z n0 h0) (S_cs : Sta Z Z.heap "java/lang/String" "COMPACT_STRINGS" "Z" (.int cs)) (hcs : ¬ (cs = (0 : Int32))) (S_fm : Sta Z Z.heap "jdk/internal/util/Preconditions" "SIOOBE_FORMATTER" "Ljava/util/function/BiFunction;" fm) (hr_fm : fm.isRef = true) :
    MetFree l x (head1 (Jvm.Cond.code x code maxLocals ret :: ws) room_1) (fun a U => a = #[(.int p0), (.int p1), (.int p2)] ∧ Z.Warmed39 U.vm ∧ U.heap = h0 ∧ CHv Z consts_1 U.vm h0) (fun _ _ _ _ _ => True) (fun _ U o U' => ∃ v L, o = .returned v ∧ Q0 Z p0 p1 p2 cs fm h0 n0 v U'.heap L ∧ ReturnedEndW U o U' L room_1.cells room_1.slots) := by
  refine MetFree.of_bodySF (plainFor_of_name pn34) hisR ?_
  intro p e s m args below meth c s₁ Bd hml0 hP hK
  obtain ⟨rfl, hZ, hh, hH⟩ := hP
  have hx := Bd.exec
  have hby := Bd.bytes
  have hml : c.maxLocals = 8 := hml0
  have hown : s.vm.findClass "com/example/subject/subject/model/WildcardsIsWildcardPinLaw" = some m.cls := findClass_of_methodNamed Bd.named
  have hnm := (name_of_methodNamed Bd.named Bd.method).1
  have X0 : Stand p l e room_1 s m #[(.int p0), (.int p1), (.int p2)] below meth c s₁ [] 0 0 := Stand.of_body Bd
  have e0 : s₁.heap = h0 := by rw [← hh, Bd.state]; rfl
  have N0 := Fr.nil n0
  have pre0 : ∀ t, Steps p.tables e below (s₁.setTop (mkF m 0 #[iv p0, iv p1, iv p2, .unset, .unset, .unset, .unset, .unset] [])) t → Steps p.tables e below (s₁.setTop (entryFrame m #[(.int p0), (.int p1), (.int p2)] maxLocals)) t := fun t k => castTop (ef_0 m p0 p1 p2) k
  have hS0 : s.Since s.vm h0.size := (State.WarmedH.refl s).since _
  have pre1 : ∀ t, Steps p.tables e below (s₁.setTop (mkF m 3 #[iv p0, iv p1, iv p2, .unset, .unset, .unset, .unset, .unset] [(.int (p2 &&& (1 : Int32)))])) t → Steps p.tables e below (s₁.setTop (entryFrame m #[(.int p0), (.int p1), (.int p2)] maxLocals)) t := by
    intro t kt
    refine pre0 _ ?_
    show Steps p.tables e below (s₁.setTop (mkF m 0 #[iv p0, iv p1, iv p2, .unset, .unset, .unset, .unset, .unset] [])) _
    refine XS.iloadN X0.here hx rfl (hb hby at_0) rfl ?_
    refine XS.iconst X0.here hx rfl (hb hby at_1) ?_
    refine XS.iand X0.here hx rfl (hb hby at_2) rfl ?_
    exact kt
  obtain ⟨ch, hj5, pre5⟩ : ∃ (ch : Int32), ((((p2 &&& (1 : Int32)) = (0 : Int32)) ∧ ch = p0) ∨ ((¬ ((p2 &&& (1 : Int32)) = (0 : Int32))) ∧ ch = (p0 &&& (127 : Int32)))) ∧ ∀ t, Steps p.tables e below (s₁.setTop (mkF m 14 #[iv p0, iv p1, iv p2, .unset, .unset, .unset, .unset, .unset] [(.int ch)])) t → Steps p.tables e below (s₁.setTop (entryFrame m #[(.int p0), (.int p1), (.int p2)] maxLocals)) t := by
    by_cases hc3 : (p2 &&& (1 : Int32)) = (0 : Int32)
    · have pre2 : ∀ t, Steps p.tables e below (s₁.setTop (mkF m 14 #[iv p0, iv p1, iv p2, .unset, .unset, .unset, .unset, .unset] [(.int p0)])) t → Steps p.tables e below (s₁.setTop (entryFrame m #[(.int p0), (.int p1), (.int p2)] maxLocals)) t := by
        intro t kt
        refine pre1 _ ?_
        show Steps p.tables e below (s₁.setTop (mkF m 3 #[iv p0, iv p1, iv p2, .unset, .unset, .unset, .unset, .unset] [(.int (p2 &&& (1 : Int32)))])) _
        refine XS.ifYes X0.here hx rfl (pc0 := 3) (pc' := 13) rfl (hb hby at_3) rfl ((if0 _ _).trans (teq hc3).1) (by decide) (by decide) ?_
        refine XS.iloadN X0.here hx rfl (hb hby at_13) rfl ?_
        exact kt
      exact ⟨p0, Or.inl ⟨hc3, rfl⟩, pre2⟩
    · have pre3 : ∀ t, Steps p.tables e below (s₁.setTop (mkF m 14 #[iv p0, iv p1, iv p2, .unset, .unset, .unset, .unset, .unset] [(.int (p0 &&& (127 : Int32)))])) t → Steps p.tables e below (s₁.setTop (entryFrame m #[(.int p0), (.int p1), (.int p2)] maxLocals)) t := by
        intro t kt
        refine pre1 _ ?_
        show Steps p.tables e below (s₁.setTop (mkF m 3 #[iv p0, iv p1, iv p2, .unset, .unset, .unset, .unset, .unset] [(.int (p2 &&& (1 : Int32)))])) _
        refine XS.ifNo X0.here hx rfl (hb hby at_3) rfl ((if0 _ _).trans (feq hc3).1) ?_
        refine XS.iloadN X0.here hx rfl (hb hby at_6) rfl ?_
        refine XS.bipush X0.here hx rfl (hb hby at_7) ?_
        refine XS.iand X0.here hx rfl (hb hby at_9) rfl ?_
        refine XS.goto X0.here hx rfl (pc0 := 10) (pc' := 14) rfl (hb hby at_10) (by decide) (by decide) ?_
        exact kt
      exact ⟨(p0 &&& (127 : Int32)), Or.inr (⟨hc3, rfl⟩), pre3⟩
  have pre6 : ∀ t, Steps p.tables e below (s₁.setTop (mkF m 16 #[iv p0, iv p1, iv p2, iv ch, .unset, .unset, .unset, .unset] [(.int ch)])) t → Steps p.tables e below (s₁.setTop (entryFrame m #[(.int p0), (.int p1), (.int p2)] maxLocals)) t := by
    intro t kt
    refine pre5 _ ?_
    show Steps p.tables e below (s₁.setTop (mkF m 14 #[iv p0, iv p1, iv p2, .unset, .unset, .unset, .unset, .unset] [(.int ch)])) _
    refine XS.istoreN X0.here hx rfl (hb hby at_14) rfl (l' := #[iv p0, iv p1, iv p2, iv ch, .unset, .unset, .unset, .unset]) rfl ?_
    refine XS.iloadN X0.here hx rfl (hb hby at_15) rfl ?_
    exact kt
  by_cases hc16 : ch < (0 : Int32)
  · have pre7 : ∀ t, Steps p.tables e below (s₁.setTop (mkF m 27 #[iv p0, iv p1, iv p2, iv ch, .unset, .unset, .unset, .unset] [(.int ch)])) t → Steps p.tables e below (s₁.setTop (entryFrame m #[(.int p0), (.int p1), (.int p2)] maxLocals)) t := by
      intro t kt
      refine pre6 _ ?_
      show Steps p.tables e below (s₁.setTop (mkF m 16 #[iv p0, iv p1, iv p2, iv ch, .unset, .unset, .unset, .unset] [(.int ch)])) _
      refine XS.ifYes X0.here hx rfl (pc0 := 16) (pc' := 26) rfl (hb hby at_16) rfl ((if0 _ _).trans (tlt hc16).1) (by decide) (by decide) ?_
      refine XS.iloadN X0.here hx rfl (hb hby at_26) rfl ?_
      exact kt
    obtain ⟨_, _, ⟨T8, L8, k8, n8⟩, -, X8, ⟨Lc8, hQ8, l8, y8, z8⟩, st8⟩ := Jvm.LawKit.callS X0 hx (y := (⟨"com/example/subject/subject/model/Wildcards", "isWildcard", "(I)Z"⟩ : MethodName)) hown (mvT hZ (hw _ (List.mem_of_getElem? (i := 1) rfl))) (mvT hZ (hw _ (List.mem_of_getElem? (i := 2) rfl))) (mvT hZ (hw _ (List.mem_of_getElem? (i := 3) rfl))) (mvT hZ (hw _ (List.mem_of_getElem? (i := 4) rfl))) (by decide) (backOf (W := 0) (rm1 l Z a0 hw [] ch (0 : Int32) h0 n0 (Nat.le_trans Z0 (Keep.refl h0 []).1) (own_isw0 hc16)) hZ (hw _ (List.mem_of_getElem? (i := 4) rfl)) (hw _ (List.mem_of_getElem? (i := 3) rfl)) (by decide) (by decide)) (g := (mkF m 27 #[iv p0, iv p1, iv p2, iv ch, .unset, .unset, .unset, .unset] [(.int ch)])) rfl (by rw [hml]; rfl) (argsL := [(.int ch)]) (rest := []) (lenOf pd18 rfl) rfl (by show 2 * 0 + _ ≤ _; exact Nat.le_of_eq rfl) (hb hby at_27) (fun _ _ => ⟨rfl, e0, (by decide : 0 + 0 ≤ _), (by decide : 0 + 0 ≤ _)⟩)
    dsimp only [Pt.U, Pt.locs, Pt.cells, Pt.slots] at X8 l8 y8 z8 st8 hQ8
    subst l8 y8 z8
    obtain ⟨rfl, N8q, hh8⟩ := hQ8
    have N8 := Fr.app N0 N8q
    have pre9 : ∀ t, Steps p.tables e below (T8.setTop (mkF m 38 #[iv p0, iv p1, iv p2, iv ch, .unset, .unset, .unset, .unset] [(.int (1 : Int32))])) t → Steps p.tables e below (s₁.setTop (entryFrame m #[(.int p0), (.int p1), (.int p2)] maxLocals)) t := by
      intro t kt
      refine pre7 _ ?_
      show Steps p.tables e below (s₁.setTop (mkF m 27 #[iv p0, iv p1, iv p2, iv ch, .unset, .unset, .unset, .unset] [(.int ch)])) _
      refine st8 _ ?_
      show Steps p.tables e below (T8.setTop (mkF m 30 #[iv p0, iv p1, iv p2, iv ch, .unset, .unset, .unset, .unset] [(.int (0 : Int32))])) _
      refine XS.ifNo X8.here hx rfl (hb hby at_30) rfl ((if0 _ _).trans (teq (by decide)).2) ?_
      refine XS.iconst X8.here hx rfl (hb hby at_33) ?_
      refine XS.goto X8.here hx rfl (pc0 := 34) (pc' := 38) rfl (hb hby at_34) (by decide) (by decide) ?_
      exact kt
    obtain ⟨fs, hr, hrun, hended, hRW⟩ := Jvm.Stand.leaveW (s := s) (vm₁ := s.vm) X8 hS0 (by rw [hh8]; exact (Nat.le_refl _)) (v := some (.int (1 : Int32))) (fun h => by rw [Bd.returns] at h; cases h)
    refine ⟨_, _, pre9 _ ?_, hrun, hended, _, _, rfl, ?_, hRW.1, hRW.2.1, hRW.2.2.1, hRW.2.2.2.mono (by decide) (by decide)⟩
    · show Steps p.tables e below (T8.setTop (mkF m 38 #[iv p0, iv p1, iv p2, iv ch, .unset, .unset, .unset, .unset] [(.int (1 : Int32))])) _
      exact retN X8 hx (t := .boolean) Bd.returns (by simp) (hb hby at_38) hr
    · show Q0 Z p0 p1 p2 cs fm h0 n0 _ T8.heap _
      rw [hh8]
      exact ⟨rfl, N8⟩
  · have pre10 : ∀ t, Steps p.tables e below (s₁.setTop (mkF m 23 #[iv p0, iv p1, iv p2, iv ch, .unset, .unset, .unset, .unset] [(.int (128 : Int32)), (.int ch)])) t → Steps p.tables e below (s₁.setTop (entryFrame m #[(.int p0), (.int p1), (.int p2)] maxLocals)) t := by
      intro t kt
      refine pre6 _ ?_
      show Steps p.tables e below (s₁.setTop (mkF m 16 #[iv p0, iv p1, iv p2, iv ch, .unset, .unset, .unset, .unset] [(.int ch)])) _
      refine XS.ifNo X0.here hx rfl (hb hby at_16) rfl ((if0 _ _).trans (flt hc16).1) ?_
      refine XS.iloadN X0.here hx rfl (hb hby at_19) rfl ?_
      refine XS.sipush X0.here hx rfl (hb hby at_20) ?_
      exact kt
    by_cases hc23 : ch < (128 : Int32)
    · obtain ⟨kk, h_kk⟩ : ∃ z : Int32, z = ((1 : Int32) + ((p1 &&& (2147483647 : Int32)) % (127 : Int32))) := ⟨_, rfl⟩
      obtain ⟨dd, h_dd⟩ : ∃ z : Int32, z = ((ch + kk) &&& (127 : Int32)) := ⟨_, rfl⟩
      have pre11 : ∀ t, Steps p.tables e below (s₁.setTop (mkF m 59 #[iv p0, iv p1, iv p2, iv ch, iv kk, iv dd, .unset, .unset] [])) t → Steps p.tables e below (s₁.setTop (entryFrame m #[(.int p0), (.int p1), (.int p2)] maxLocals)) t := by
        intro t kt
        refine pre10 _ ?_
        show Steps p.tables e below (s₁.setTop (mkF m 23 #[iv p0, iv p1, iv p2, iv ch, .unset, .unset, .unset, .unset] [(.int (128 : Int32)), (.int ch)])) _
        refine XS.icmpYes X0.here hx rfl (pc0 := 23) (pc' := 39) rfl (hb hby at_23) rfl (tlt hc23).1 (by decide) (by decide) ?_
        refine XS.iconst X0.here hx rfl (hb hby at_39) ?_
        refine XS.iloadN X0.here hx rfl (hb hby at_40) rfl ?_
        refine X0.ldcInt hx hown (mvT hZ (hw _ (List.mem_of_getElem? (i := 0) rfl))) (g := (mkF m 41 #[iv p0, iv p1, iv p2, iv ch, .unset, .unset, .unset, .unset] [(.int p1), (.int (1 : Int32))])) rfl (hb hby at_41) _ ?_
        show Steps p.tables e below (s₁.setTop (mkF m 43 #[iv p0, iv p1, iv p2, iv ch, .unset, .unset, .unset, .unset] [(.int (2147483647 : Int32)), (.int p1), (.int (1 : Int32))])) _
        refine XS.iand X0.here hx rfl (hb hby at_43) rfl ?_
        refine XS.bipush X0.here hx rfl (hb hby at_44) ?_
        refine iremM X0 hx rfl (hb hby at_46) rfl (by decide) ?_
        show Steps p.tables e below (s₁.setTop (mkF m 47 #[iv p0, iv p1, iv p2, iv ch, .unset, .unset, .unset, .unset] [(.int ((p1 &&& (2147483647 : Int32)) % (127 : Int32))), (.int (1 : Int32))])) _
        refine XS.iadd X0.here hx rfl (hb hby at_47) rfl ?_
        refine XS.istore X0.here hx rfl (hb hby at_48) rfl (l' := #[iv p0, iv p1, iv p2, iv ch, iv ((1 : Int32) + ((p1 &&& (2147483647 : Int32)) % (127 : Int32))), .unset, .unset, .unset]) rfl ?_
        show Steps p.tables e below (s₁.setTop (mkF m 50 #[iv p0, iv p1, iv p2, iv ch, iv ((1 : Int32) + ((p1 &&& (2147483647 : Int32)) % (127 : Int32))), .unset, .unset, .unset] [])) _
        rw [← h_kk]
        show Steps p.tables e below (s₁.setTop (mkF m 50 #[iv p0, iv p1, iv p2, iv ch, iv kk, .unset, .unset, .unset] [])) _
        refine XS.iloadN X0.here hx rfl (hb hby at_50) rfl ?_
        refine XS.iload X0.here hx rfl (hb hby at_51) rfl ?_
        refine XS.iadd X0.here hx rfl (hb hby at_53) rfl ?_
        refine XS.bipush X0.here hx rfl (hb hby at_54) ?_
        refine XS.iand X0.here hx rfl (hb hby at_56) rfl ?_
        refine XS.istore X0.here hx rfl (hb hby at_57) rfl (l' := #[iv p0, iv p1, iv p2, iv ch, iv kk, iv ((ch + kk) &&& (127 : Int32)), .unset, .unset]) rfl ?_
        show Steps p.tables e below (s₁.setTop (mkF m 59 #[iv p0, iv p1, iv p2, iv ch, iv kk, iv ((ch + kk) &&& (127 : Int32)), .unset, .unset] [])) _
        rw [← h_dd]
        exact kt
      have hok_ch : own_ok ch := ⟨hc16, hc23⟩
      have hok_dd : own_ok dd := by rw [h_dd]; exact own_and127 _
      have hkk := own_kk _ _ h_kk
      have hcd : ¬ (ch = dd) := by rw [h_dd]; exact own_cd ch kk hok_ch hkk.1 hkk.2
      by_cases hS : ch = (42 : Int32)
      · have pre12 : ∀ t, Steps p.tables e below (s₁.setTop (mkF m 60 #[iv p0, iv p1, iv p2, iv ch, iv kk, iv dd, .unset, .unset] [(.int ch)])) t → Steps p.tables e below (s₁.setTop (entryFrame m #[(.int p0), (.int p1), (.int p2)] maxLocals)) t := by
          intro t kt
          refine pre11 _ ?_
          show Steps p.tables e below (s₁.setTop (mkF m 59 #[iv p0, iv p1, iv p2, iv ch, iv kk, iv dd, .unset, .unset] [])) _
          refine XS.iloadN X0.here hx rfl (hb hby at_59) rfl ?_
          exact kt
        obtain ⟨_, _, ⟨T13, L13, k13, n13⟩, -, X13, ⟨Lc13, hQ13, l13, y13, z13⟩, st13⟩ := Jvm.LawKit.callS X0 hx (y := (⟨"com/example/subject/subject/model/Wildcards", "isWildcard", "(I)Z"⟩ : MethodName)) hown (mvT hZ (hw _ (List.mem_of_getElem? (i := 1) rfl))) (mvT hZ (hw _ (List.mem_of_getElem? (i := 2) rfl))) (mvT hZ (hw _ (List.mem_of_getElem? (i := 3) rfl))) (mvT hZ (hw _ (List.mem_of_getElem? (i := 4) rfl))) (by decide) (backOf (W := 0) (rm1 l Z a0 hw [] ch (1 : Int32) h0 n0 (Nat.le_trans Z0 (Keep.refl h0 []).1) (by rw [hS]; decide)) hZ (hw _ (List.mem_of_getElem? (i := 4) rfl)) (hw _ (List.mem_of_getElem? (i := 3) rfl)) (by decide) (by decide)) (g := (mkF m 60 #[iv p0, iv p1, iv p2, iv ch, iv kk, iv dd, .unset, .unset] [(.int ch)])) rfl (by rw [hml]; rfl) (argsL := [(.int ch)]) (rest := []) (lenOf pd18 rfl) rfl (by show 2 * 0 + _ ≤ _; exact Nat.le_of_eq rfl) (hb hby at_60) (fun _ _ => ⟨rfl, e0, (by decide : 0 + 0 ≤ _), (by decide : 0 + 0 ≤ _)⟩)
        dsimp only [Pt.U, Pt.locs, Pt.cells, Pt.slots] at X13 l13 y13 z13 st13 hQ13
        subst l13 y13 z13
        obtain ⟨rfl, N13q, hh13⟩ := hQ13
        have N13 := Fr.app N0 N13q
        have pre14 : ∀ t, Steps p.tables e below (T13.setTop (mkF m 67 #[iv p0, iv p1, iv p2, iv ch, iv kk, iv dd, iv (1 : Int32), .unset] [(.int ch)])) t → Steps p.tables e below (s₁.setTop (entryFrame m #[(.int p0), (.int p1), (.int p2)] maxLocals)) t := by
          intro t kt
          refine pre12 _ ?_
          show Steps p.tables e below (s₁.setTop (mkF m 60 #[iv p0, iv p1, iv p2, iv ch, iv kk, iv dd, .unset, .unset] [(.int ch)])) _
          refine st13 _ ?_
          show Steps p.tables e below (T13.setTop (mkF m 63 #[iv p0, iv p1, iv p2, iv ch, iv kk, iv dd, .unset, .unset] [(.int (1 : Int32))])) _
          refine XS.istore X13.here hx rfl (hb hby at_63) rfl (l' := #[iv p0, iv p1, iv p2, iv ch, iv kk, iv dd, iv (1 : Int32), .unset]) rfl ?_
          refine XS.iloadN X13.here hx rfl (hb hby at_65) rfl ?_
          refine XS.i2c X13.here hx rfl (hb hby at_66) rfl ?_
          show Steps p.tables e below (T13.setTop (mkF m 67 #[iv p0, iv p1, iv p2, iv ch, iv kk, iv dd, iv (1 : Int32), .unset] [(.int (ch.toUInt32.toUInt16.toUInt32.toInt32))])) _
          rw [show (ch.toUInt32.toUInt16.toUInt32.toInt32) = ch from (own_c ch hok_ch)]
          exact kt
        obtain ⟨_, _, ⟨T15, L15, k15, n15⟩, -, X15, ⟨Lc15, hQ15, l15, y15, z15⟩, st15⟩ := Jvm.LawKit.callS X13 hx (y := (⟨"java/lang/String", "valueOf", "(C)Ljava/lang/String;"⟩ : MethodName)) hown (mvT hZ (hw _ (List.mem_of_getElem? (i := 5) rfl))) (mvT hZ (hw _ (List.mem_of_getElem? (i := 6) rfl))) (mvT hZ (hw _ (List.mem_of_getElem? (i := 7) rfl))) (mvT hZ (hw _ (List.mem_of_getElem? (i := 8) rfl))) (by decide) (backOf (W := 0) (rm2 l Z a0 hw [] ch cs h0 n0 (Nat.le_trans Z0 (Keep.refl h0 []).1) (O0.keep (Keep.refl h0 []) all0) S_cs hcs hok_ch) hZ (hw _ (List.mem_of_getElem? (i := 8) rfl)) (hw _ (List.mem_of_getElem? (i := 7) rfl)) (by decide) (by decide)) (g := (mkF m 67 #[iv p0, iv p1, iv p2, iv ch, iv kk, iv dd, iv (1 : Int32), .unset] [(.int ch)])) rfl (by rw [hml]; rfl) (argsL := [(.int ch)]) (rest := []) (lenOf pd35 rfl) rfl (by show 2 * 0 + _ ≤ _; exact Nat.le_of_eq rfl) (hb hby at_67) (fun _ _ => ⟨rfl, hh13, (by decide : 0 + 2 ≤ _), (by decide : 0 + 5 ≤ _)⟩)
        dsimp only [Pt.U, Pt.locs, Pt.cells, Pt.slots] at X15 l15 y15 z15 st15 hQ15
        subst l15 y15 z15
        obtain ⟨x15, y15, ky15, rfl, N15q, Kc15, hx15, hy15, Ex15, Fv15, Fc15, Vy15⟩ := hQ15
        have N15 := Fr.app N13 N15q
        have K15 : Keep h0 T15.heap [] := (Keep.refl h0 []).trans Kc15 all0
        have pre16 : ∀ t, Steps p.tables e below (T15.setTop (mkF m 73 #[iv p0, iv p1, iv p2, iv ch, iv kk, iv dd, iv (1 : Int32), .unset] [(.int dd), (.ref x15)])) t → Steps p.tables e below (s₁.setTop (entryFrame m #[(.int p0), (.int p1), (.int p2)] maxLocals)) t := by
          intro t kt
          refine pre14 _ ?_
          show Steps p.tables e below (T13.setTop (mkF m 67 #[iv p0, iv p1, iv p2, iv ch, iv kk, iv dd, iv (1 : Int32), .unset] [(.int ch)])) _
          refine st15 _ ?_
          show Steps p.tables e below (T15.setTop (mkF m 70 #[iv p0, iv p1, iv p2, iv ch, iv kk, iv dd, iv (1 : Int32), .unset] [(.ref x15)])) _
          refine XS.iload X15.here hx rfl (hb hby at_70) rfl ?_
          refine XS.i2c X15.here hx rfl (hb hby at_72) rfl ?_
          show Steps p.tables e below (T15.setTop (mkF m 73 #[iv p0, iv p1, iv p2, iv ch, iv kk, iv dd, iv (1 : Int32), .unset] [(.int (dd.toUInt32.toUInt16.toUInt32.toInt32)), (.ref x15)])) _
          rw [show (dd.toUInt32.toUInt16.toUInt32.toInt32) = dd from (own_c dd hok_dd)]
          exact kt
        obtain ⟨_, _, ⟨T17, L17, k17, n17⟩, -, X17, ⟨Lc17, hQ17, l17, y17, z17⟩, st17⟩ := Jvm.LawKit.callS X15 hx (y := (⟨"java/lang/String", "valueOf", "(C)Ljava/lang/String;"⟩ : MethodName)) hown (mvT hZ (hw _ (List.mem_of_getElem? (i := 5) rfl))) (mvT hZ (hw _ (List.mem_of_getElem? (i := 6) rfl))) (mvT hZ (hw _ (List.mem_of_getElem? (i := 7) rfl))) (mvT hZ (hw _ (List.mem_of_getElem? (i := 8) rfl))) (by decide) (backOf (W := 1) (rm2 l Z a0 hw [] dd cs T15.heap n0 (Nat.le_trans Z0 K15.1) (O0.keep K15 all0) S_cs hcs hok_dd) hZ (hw _ (List.mem_of_getElem? (i := 8) rfl)) (hw _ (List.mem_of_getElem? (i := 7) rfl)) (by decide) (by decide)) (g := (mkF m 73 #[iv p0, iv p1, iv p2, iv ch, iv kk, iv dd, iv (1 : Int32), .unset] [(.int dd), (.ref x15)])) rfl (by rw [hml]; rfl) (argsL := [(.int dd)]) (rest := [(.ref x15)]) (lenOf pd35 rfl) rfl (by show 2 * 0 + _ ≤ _; exact Nat.le_of_eq rfl) (hb hby at_73) (fun _ _ => ⟨rfl, rfl, (by decide : 2 + 2 ≤ _), (by decide : 5 + 5 ≤ _)⟩)
        dsimp only [Pt.U, Pt.locs, Pt.cells, Pt.slots] at X17 l17 y17 z17 st17 hQ17
        subst l17 y17 z17
        obtain ⟨x17, y17, ky17, rfl, N17q, Kc17, hx17, hy17, Ex17, Fv17, Fc17, Vy17⟩ := hQ17
        have N17 := Fr.app N15 N17q
        have K17 : Keep h0 T17.heap [] := K15.trans Kc17 all0
        have pre18 : ∀ t, Steps p.tables e below (T17.setTop (mkF m 76 #[iv p0, iv p1, iv p2, iv ch, iv kk, iv dd, iv (1 : Int32), .unset] [(.ref x17), (.ref x15)])) t → Steps p.tables e below (s₁.setTop (entryFrame m #[(.int p0), (.int p1), (.int p2)] maxLocals)) t := by
          intro t kt
          refine pre16 _ ?_
          show Steps p.tables e below (T15.setTop (mkF m 73 #[iv p0, iv p1, iv p2, iv ch, iv kk, iv dd, iv (1 : Int32), .unset] [(.int dd), (.ref x15)])) _
          refine st17 _ ?_
          exact kt
        obtain ⟨_, _, ⟨T19, L19, k19, n19⟩, -, X19, hSc19, hgr19, ⟨Lc19, hQ19, l19, y19, z19⟩, st19⟩ := callSS X17 hx (y := (⟨"com/example/subject/subject/model/Wildcards", "matches", "(Ljava/lang/String;Ljava/lang/String;)Z"⟩ : MethodName)) hown (mvT hZ (hw _ (List.mem_of_getElem? (i := 31) rfl))) (mvT hZ (hw _ (List.mem_of_getElem? (i := 32) rfl))) (mvT hZ (hw _ (List.mem_of_getElem? (i := 3) rfl))) (mvT hZ (hw _ (List.mem_of_getElem? (i := 33) rfl))) (by decide) (own_backSH (W := 0) (rm7S l Z a0 hw [] x15 x17 y15 ky15 ch y17 ky17 dd cs fm T17.heap n0 (Nat.le_trans Z0 K17.1) (Fv15.keep Kc17 nin0) (Fc15.keep Kc17 nin0) (Ex15.keep Kc17) (Vy15.keep Kc17 nin0) Fv17 Fc17 Ex17 Vy17 (O0.keep K17 all0) S_cs hcs S_fm hr_fm hok_ch hok_dd hcd (if_pos hS)) hZ (hw _ (List.mem_of_getElem? (i := 33) rfl)) (hw _ (List.mem_of_getElem? (i := 3) rfl)) (by decide) (by decide) (own_EW hw) (hH.keep K17 (fun _ q => nomatch q))) (g := (mkF m 76 #[iv p0, iv p1, iv p2, iv ch, iv kk, iv dd, iv (1 : Int32), .unset] [(.ref x17), (.ref x15)])) rfl (by rw [hml]; rfl) (argsL := [(.ref x15), (.ref x17)]) (rest := []) (lenOf pd36 rfl) rfl (by show 2 * 0 + _ ≤ _; exact Nat.le_of_eq rfl) (hb hby at_76) (fun _ _ => ⟨rfl, rfl, (by decide : 4 + 7 ≤ _), (by decide : 10 + 25 ≤ _)⟩)
        dsimp only [Pt.U, Pt.locs, Pt.cells, Pt.slots] at X19 l19 y19 z19 st19 hQ19 hSc19 hgr19
        subst l19 y19 z19
        obtain ⟨rfl, N19q, Kc19⟩ := hQ19
        have N19 := Fr.app N17 N19q
        obtain ⟨X19, hS19, hZ, hown⟩ := rebS (s := s) (vm0 := s.vm) hS0 (Nat.le_trans (Nat.le_trans (Nat.le_refl _) Kc15.1) Kc17.1) X19 hSc19 hgr19 hZ hown
        have K19 : Keep h0 T19.heap [] := K17.trans Kc19 all0
        have pre20 : ∀ t, Steps p.tables e below (T19.setTop (mkF m 93 #[iv p0, iv p1, iv p2, iv ch, iv kk, iv dd, iv (1 : Int32), iv (1 : Int32)] [(.int (1 : Int32))])) t → Steps p.tables e below (s₁.setTop (entryFrame m #[(.int p0), (.int p1), (.int p2)] maxLocals)) t := by
          intro t kt
          refine pre18 _ ?_
          show Steps p.tables e below (T17.setTop (mkF m 76 #[iv p0, iv p1, iv p2, iv ch, iv kk, iv dd, iv (1 : Int32), .unset] [(.ref x17), (.ref x15)])) _
          refine st19.trans ?_
          show Steps p.tables e below (T19.setTop (mkF m 79 #[iv p0, iv p1, iv p2, iv ch, iv kk, iv dd, iv (1 : Int32), .unset] [(.int (1 : Int32))])) _
          refine XS.istore X19.here hx rfl (hb hby at_79) rfl (l' := #[iv p0, iv p1, iv p2, iv ch, iv kk, iv dd, iv (1 : Int32), iv (1 : Int32)]) rfl ?_
          refine XS.iload X19.here hx rfl (hb hby at_81) rfl ?_
          refine XS.iload X19.here hx rfl (hb hby at_83) rfl ?_
          refine XS.icmpNo X19.here hx rfl (hb hby at_85) rfl (teq (by decide)).2 ?_
          refine XS.iconst X19.here hx rfl (hb hby at_88) ?_
          refine XS.goto X19.here hx rfl (pc0 := 89) (pc' := 93) rfl (hb hby at_89) (by decide) (by decide) ?_
          exact kt
        obtain ⟨fs, hr, hrun, hended, hRW⟩ := Jvm.Stand.leaveW (s := s) (vm₁ := T19.vm) X19 hS19 (Nat.le_refl _) (v := some (.int (1 : Int32))) (fun h => by rw [Bd.returns] at h; cases h)
        refine ⟨_, _, pre20 _ ?_, hrun, hended, _, _, rfl, ?_, hRW.1, hRW.2.1, hRW.2.2.1, hRW.2.2.2.mono (by decide) (by decide)⟩
        · show Steps p.tables e below (T19.setTop (mkF m 93 #[iv p0, iv p1, iv p2, iv ch, iv kk, iv dd, iv (1 : Int32), iv (1 : Int32)] [(.int (1 : Int32))])) _
          exact retN X19 hx (t := .boolean) Bd.returns (by simp) (hb hby at_93) hr
        · show Q0 Z p0 p1 p2 cs fm h0 n0 _ T19.heap _
          exact ⟨rfl, N19⟩
      · have pre21 : ∀ t, Steps p.tables e below (s₁.setTop (mkF m 60 #[iv p0, iv p1, iv p2, iv ch, iv kk, iv dd, .unset, .unset] [(.int ch)])) t → Steps p.tables e below (s₁.setTop (entryFrame m #[(.int p0), (.int p1), (.int p2)] maxLocals)) t := by
          intro t kt
          refine pre11 _ ?_
          show Steps p.tables e below (s₁.setTop (mkF m 59 #[iv p0, iv p1, iv p2, iv ch, iv kk, iv dd, .unset, .unset] [])) _
          refine XS.iloadN X0.here hx rfl (hb hby at_59) rfl ?_
          exact kt
        obtain ⟨_, _, ⟨T22, L22, k22, n22⟩, -, X22, ⟨Lc22, hQ22, l22, y22, z22⟩, st22⟩ := Jvm.LawKit.callS X0 hx (y := (⟨"com/example/subject/subject/model/Wildcards", "isWildcard", "(I)Z"⟩ : MethodName)) hown (mvT hZ (hw _ (List.mem_of_getElem? (i := 1) rfl))) (mvT hZ (hw _ (List.mem_of_getElem? (i := 2) rfl))) (mvT hZ (hw _ (List.mem_of_getElem? (i := 3) rfl))) (mvT hZ (hw _ (List.mem_of_getElem? (i := 4) rfl))) (by decide) (backOf (W := 0) (rm1 l Z a0 hw [] ch (own_fit ch) h0 n0 (Nat.le_trans Z0 (Keep.refl h0 []).1) (own_iswN hS)) hZ (hw _ (List.mem_of_getElem? (i := 4) rfl)) (hw _ (List.mem_of_getElem? (i := 3) rfl)) (by decide) (by decide)) (g := (mkF m 60 #[iv p0, iv p1, iv p2, iv ch, iv kk, iv dd, .unset, .unset] [(.int ch)])) rfl (by rw [hml]; rfl) (argsL := [(.int ch)]) (rest := []) (lenOf pd18 rfl) rfl (by show 2 * 0 + _ ≤ _; exact Nat.le_of_eq rfl) (hb hby at_60) (fun _ _ => ⟨rfl, e0, (by decide : 0 + 0 ≤ _), (by decide : 0 + 0 ≤ _)⟩)
        dsimp only [Pt.U, Pt.locs, Pt.cells, Pt.slots] at X22 l22 y22 z22 st22 hQ22
        subst l22 y22 z22
        obtain ⟨rfl, N22q, hh22⟩ := hQ22
        have N22 := Fr.app N0 N22q
        have pre23 : ∀ t, Steps p.tables e below (T22.setTop (mkF m 67 #[iv p0, iv p1, iv p2, iv ch, iv kk, iv dd, iv (own_fit ch), .unset] [(.int ch)])) t → Steps p.tables e below (s₁.setTop (entryFrame m #[(.int p0), (.int p1), (.int p2)] maxLocals)) t := by
          intro t kt
          refine pre21 _ ?_
          show Steps p.tables e below (s₁.setTop (mkF m 60 #[iv p0, iv p1, iv p2, iv ch, iv kk, iv dd, .unset, .unset] [(.int ch)])) _
          refine st22 _ ?_
          show Steps p.tables e below (T22.setTop (mkF m 63 #[iv p0, iv p1, iv p2, iv ch, iv kk, iv dd, .unset, .unset] [(.int (own_fit ch))])) _
          refine XS.istore X22.here hx rfl (hb hby at_63) rfl (l' := #[iv p0, iv p1, iv p2, iv ch, iv kk, iv dd, iv (own_fit ch), .unset]) rfl ?_
          refine XS.iloadN X22.here hx rfl (hb hby at_65) rfl ?_
          refine XS.i2c X22.here hx rfl (hb hby at_66) rfl ?_
          show Steps p.tables e below (T22.setTop (mkF m 67 #[iv p0, iv p1, iv p2, iv ch, iv kk, iv dd, iv (own_fit ch), .unset] [(.int (ch.toUInt32.toUInt16.toUInt32.toInt32))])) _
          rw [show (ch.toUInt32.toUInt16.toUInt32.toInt32) = ch from (own_c ch hok_ch)]
          exact kt
        obtain ⟨_, _, ⟨T24, L24, k24, n24⟩, -, X24, ⟨Lc24, hQ24, l24, y24, z24⟩, st24⟩ := Jvm.LawKit.callS X22 hx (y := (⟨"java/lang/String", "valueOf", "(C)Ljava/lang/String;"⟩ : MethodName)) hown (mvT hZ (hw _ (List.mem_of_getElem? (i := 5) rfl))) (mvT hZ (hw _ (List.mem_of_getElem? (i := 6) rfl))) (mvT hZ (hw _ (List.mem_of_getElem? (i := 7) rfl))) (mvT hZ (hw _ (List.mem_of_getElem? (i := 8) rfl))) (by decide) (backOf (W := 0) (rm2 l Z a0 hw [] ch cs h0 n0 (Nat.le_trans Z0 (Keep.refl h0 []).1) (O0.keep (Keep.refl h0 []) all0) S_cs hcs hok_ch) hZ (hw _ (List.mem_of_getElem? (i := 8) rfl)) (hw _ (List.mem_of_getElem? (i := 7) rfl)) (by decide) (by decide)) (g := (mkF m 67 #[iv p0, iv p1, iv p2, iv ch, iv kk, iv dd, iv (own_fit ch), .unset] [(.int ch)])) rfl (by rw [hml]; rfl) (argsL := [(.int ch)]) (rest := []) (lenOf pd35 rfl) rfl (by show 2 * 0 + _ ≤ _; exact Nat.le_of_eq rfl) (hb hby at_67) (fun _ _ => ⟨rfl, hh22, (by decide : 0 + 2 ≤ _), (by decide : 0 + 5 ≤ _)⟩)
        dsimp only [Pt.U, Pt.locs, Pt.cells, Pt.slots] at X24 l24 y24 z24 st24 hQ24
        subst l24 y24 z24
        obtain ⟨x24, y24, ky24, rfl, N24q, Kc24, hx24, hy24, Ex24, Fv24, Fc24, Vy24⟩ := hQ24
        have N24 := Fr.app N22 N24q
        have K24 : Keep h0 T24.heap [] := (Keep.refl h0 []).trans Kc24 all0
        have pre25 : ∀ t, Steps p.tables e below (T24.setTop (mkF m 73 #[iv p0, iv p1, iv p2, iv ch, iv kk, iv dd, iv (own_fit ch), .unset] [(.int dd), (.ref x24)])) t → Steps p.tables e below (s₁.setTop (entryFrame m #[(.int p0), (.int p1), (.int p2)] maxLocals)) t := by
          intro t kt
          refine pre23 _ ?_
          show Steps p.tables e below (T22.setTop (mkF m 67 #[iv p0, iv p1, iv p2, iv ch, iv kk, iv dd, iv (own_fit ch), .unset] [(.int ch)])) _
          refine st24 _ ?_
          show Steps p.tables e below (T24.setTop (mkF m 70 #[iv p0, iv p1, iv p2, iv ch, iv kk, iv dd, iv (own_fit ch), .unset] [(.ref x24)])) _
          refine XS.iload X24.here hx rfl (hb hby at_70) rfl ?_
          refine XS.i2c X24.here hx rfl (hb hby at_72) rfl ?_
          show Steps p.tables e below (T24.setTop (mkF m 73 #[iv p0, iv p1, iv p2, iv ch, iv kk, iv dd, iv (own_fit ch), .unset] [(.int (dd.toUInt32.toUInt16.toUInt32.toInt32)), (.ref x24)])) _
          rw [show (dd.toUInt32.toUInt16.toUInt32.toInt32) = dd from (own_c dd hok_dd)]
          exact kt
        obtain ⟨_, _, ⟨T26, L26, k26, n26⟩, -, X26, ⟨Lc26, hQ26, l26, y26, z26⟩, st26⟩ := Jvm.LawKit.callS X24 hx (y := (⟨"java/lang/String", "valueOf", "(C)Ljava/lang/String;"⟩ : MethodName)) hown (mvT hZ (hw _ (List.mem_of_getElem? (i := 5) rfl))) (mvT hZ (hw _ (List.mem_of_getElem? (i := 6) rfl))) (mvT hZ (hw _ (List.mem_of_getElem? (i := 7) rfl))) (mvT hZ (hw _ (List.mem_of_getElem? (i := 8) rfl))) (by decide) (backOf (W := 1) (rm2 l Z a0 hw [] dd cs T24.heap n0 (Nat.le_trans Z0 K24.1) (O0.keep K24 all0) S_cs hcs hok_dd) hZ (hw _ (List.mem_of_getElem? (i := 8) rfl)) (hw _ (List.mem_of_getElem? (i := 7) rfl)) (by decide) (by decide)) (g := (mkF m 73 #[iv p0, iv p1, iv p2, iv ch, iv kk, iv dd, iv (own_fit ch), .unset] [(.int dd), (.ref x24)])) rfl (by rw [hml]; rfl) (argsL := [(.int dd)]) (rest := [(.ref x24)]) (lenOf pd35 rfl) rfl (by show 2 * 0 + _ ≤ _; exact Nat.le_of_eq rfl) (hb hby at_73) (fun _ _ => ⟨rfl, rfl, (by decide : 2 + 2 ≤ _), (by decide : 5 + 5 ≤ _)⟩)
        dsimp only [Pt.U, Pt.locs, Pt.cells, Pt.slots] at X26 l26 y26 z26 st26 hQ26
        subst l26 y26 z26
        obtain ⟨x26, y26, ky26, rfl, N26q, Kc26, hx26, hy26, Ex26, Fv26, Fc26, Vy26⟩ := hQ26
        have N26 := Fr.app N24 N26q
        have K26 : Keep h0 T26.heap [] := K24.trans Kc26 all0
        have pre27 : ∀ t, Steps p.tables e below (T26.setTop (mkF m 76 #[iv p0, iv p1, iv p2, iv ch, iv kk, iv dd, iv (own_fit ch), .unset] [(.ref x26), (.ref x24)])) t → Steps p.tables e below (s₁.setTop (entryFrame m #[(.int p0), (.int p1), (.int p2)] maxLocals)) t := by
          intro t kt
          refine pre25 _ ?_
          show Steps p.tables e below (T24.setTop (mkF m 73 #[iv p0, iv p1, iv p2, iv ch, iv kk, iv dd, iv (own_fit ch), .unset] [(.int dd), (.ref x24)])) _
          refine st26 _ ?_
          exact kt
        obtain ⟨_, _, ⟨T28, L28, k28, n28⟩, -, X28, hSc28, hgr28, ⟨Lc28, hQ28, l28, y28, z28⟩, st28⟩ := callSS X26 hx (y := (⟨"com/example/subject/subject/model/Wildcards", "matches", "(Ljava/lang/String;Ljava/lang/String;)Z"⟩ : MethodName)) hown (mvT hZ (hw _ (List.mem_of_getElem? (i := 31) rfl))) (mvT hZ (hw _ (List.mem_of_getElem? (i := 32) rfl))) (mvT hZ (hw _ (List.mem_of_getElem? (i := 3) rfl))) (mvT hZ (hw _ (List.mem_of_getElem? (i := 33) rfl))) (by decide) (own_backSH (W := 0) (rm7N l Z a0 hw [] x24 x26 y24 ky24 ch y26 ky26 dd cs fm T26.heap n0 (Nat.le_trans Z0 K26.1) (Fv24.keep Kc26 nin0) (Fc24.keep Kc26 nin0) (Ex24.keep Kc26) (Vy24.keep Kc26 nin0) Fv26 Fc26 Ex26 Vy26 (O0.keep K26 all0) S_cs hcs S_fm hr_fm hok_ch hok_dd hcd (if_neg hS)) hZ (hw _ (List.mem_of_getElem? (i := 33) rfl)) (hw _ (List.mem_of_getElem? (i := 3) rfl)) (by decide) (by decide) (own_EW hw) (hH.keep K26 (fun _ q => nomatch q))) (g := (mkF m 76 #[iv p0, iv p1, iv p2, iv ch, iv kk, iv dd, iv (own_fit ch), .unset] [(.ref x26), (.ref x24)])) rfl (by rw [hml]; rfl) (argsL := [(.ref x24), (.ref x26)]) (rest := []) (lenOf pd36 rfl) rfl (by show 2 * 0 + _ ≤ _; exact Nat.le_of_eq rfl) (hb hby at_76) (fun _ _ => ⟨rfl, rfl, (by decide : 4 + 7 ≤ _), (by decide : 10 + 25 ≤ _)⟩)
        dsimp only [Pt.U, Pt.locs, Pt.cells, Pt.slots] at X28 l28 y28 z28 st28 hQ28 hSc28 hgr28
        subst l28 y28 z28
        obtain ⟨rfl, N28q, Kc28⟩ := hQ28
        have N28 := Fr.app N26 N28q
        obtain ⟨X28, hS28, hZ, hown⟩ := rebS (s := s) (vm0 := s.vm) hS0 (Nat.le_trans (Nat.le_trans (Nat.le_refl _) Kc24.1) Kc26.1) X28 hSc28 hgr28 hZ hown
        have K28 : Keep h0 T28.heap [] := K26.trans Kc28 all0
        have pre29 : ∀ t, Steps p.tables e below (T28.setTop (mkF m 93 #[iv p0, iv p1, iv p2, iv ch, iv kk, iv dd, iv (own_fit ch), iv (own_fit ch)] [(.int (1 : Int32))])) t → Steps p.tables e below (s₁.setTop (entryFrame m #[(.int p0), (.int p1), (.int p2)] maxLocals)) t := by
          intro t kt
          refine pre27 _ ?_
          show Steps p.tables e below (T26.setTop (mkF m 76 #[iv p0, iv p1, iv p2, iv ch, iv kk, iv dd, iv (own_fit ch), .unset] [(.ref x26), (.ref x24)])) _
          refine st28.trans ?_
          show Steps p.tables e below (T28.setTop (mkF m 79 #[iv p0, iv p1, iv p2, iv ch, iv kk, iv dd, iv (own_fit ch), .unset] [(.int (own_fit ch))])) _
          refine XS.istore X28.here hx rfl (hb hby at_79) rfl (l' := #[iv p0, iv p1, iv p2, iv ch, iv kk, iv dd, iv (own_fit ch), iv (own_fit ch)]) rfl ?_
          refine XS.iload X28.here hx rfl (hb hby at_81) rfl ?_
          refine XS.iload X28.here hx rfl (hb hby at_83) rfl ?_
          refine XS.icmpNo X28.here hx rfl (hb hby at_85) rfl (teq rfl).2 ?_
          refine XS.iconst X28.here hx rfl (hb hby at_88) ?_
          refine XS.goto X28.here hx rfl (pc0 := 89) (pc' := 93) rfl (hb hby at_89) (by decide) (by decide) ?_
          exact kt
        obtain ⟨fs, hr, hrun, hended, hRW⟩ := Jvm.Stand.leaveW (s := s) (vm₁ := T28.vm) X28 hS28 (Nat.le_refl _) (v := some (.int (1 : Int32))) (fun h => by rw [Bd.returns] at h; cases h)
        refine ⟨_, _, pre29 _ ?_, hrun, hended, _, _, rfl, ?_, hRW.1, hRW.2.1, hRW.2.2.1, hRW.2.2.2.mono (by decide) (by decide)⟩
        · show Steps p.tables e below (T28.setTop (mkF m 93 #[iv p0, iv p1, iv p2, iv ch, iv kk, iv dd, iv (own_fit ch), iv (own_fit ch)] [(.int (1 : Int32))])) _
          exact retN X28 hx (t := .boolean) Bd.returns (by simp) (hb hby at_93) hr
        · show Q0 Z p0 p1 p2 cs fm h0 n0 _ T28.heap _
          exact ⟨rfl, N28⟩
    · have pre30 : ∀ t, Steps p.tables e below (s₁.setTop (mkF m 27 #[iv p0, iv p1, iv p2, iv ch, .unset, .unset, .unset, .unset] [(.int ch)])) t → Steps p.tables e below (s₁.setTop (entryFrame m #[(.int p0), (.int p1), (.int p2)] maxLocals)) t := by
        intro t kt
        refine pre10 _ ?_
        show Steps p.tables e below (s₁.setTop (mkF m 23 #[iv p0, iv p1, iv p2, iv ch, .unset, .unset, .unset, .unset] [(.int (128 : Int32)), (.int ch)])) _
        refine XS.icmpNo X0.here hx rfl (hb hby at_23) rfl (flt hc23).1 ?_
        refine XS.iloadN X0.here hx rfl (hb hby at_26) rfl ?_
        exact kt
      obtain ⟨_, _, ⟨T31, L31, k31, n31⟩, -, X31, ⟨Lc31, hQ31, l31, y31, z31⟩, st31⟩ := Jvm.LawKit.callS X0 hx (y := (⟨"com/example/subject/subject/model/Wildcards", "isWildcard", "(I)Z"⟩ : MethodName)) hown (mvT hZ (hw _ (List.mem_of_getElem? (i := 1) rfl))) (mvT hZ (hw _ (List.mem_of_getElem? (i := 2) rfl))) (mvT hZ (hw _ (List.mem_of_getElem? (i := 3) rfl))) (mvT hZ (hw _ (List.mem_of_getElem? (i := 4) rfl))) (by decide) (backOf (W := 0) (rm1 l Z a0 hw [] ch (0 : Int32) h0 n0 (Nat.le_trans Z0 (Keep.refl h0 []).1) (own_isw128 hc23)) hZ (hw _ (List.mem_of_getElem? (i := 4) rfl)) (hw _ (List.mem_of_getElem? (i := 3) rfl)) (by decide) (by decide)) (g := (mkF m 27 #[iv p0, iv p1, iv p2, iv ch, .unset, .unset, .unset, .unset] [(.int ch)])) rfl (by rw [hml]; rfl) (argsL := [(.int ch)]) (rest := []) (lenOf pd18 rfl) rfl (by show 2 * 0 + _ ≤ _; exact Nat.le_of_eq rfl) (hb hby at_27) (fun _ _ => ⟨rfl, e0, (by decide : 0 + 0 ≤ _), (by decide : 0 + 0 ≤ _)⟩)
      dsimp only [Pt.U, Pt.locs, Pt.cells, Pt.slots] at X31 l31 y31 z31 st31 hQ31
      subst l31 y31 z31
      obtain ⟨rfl, N31q, hh31⟩ := hQ31
      have N31 := Fr.app N0 N31q
      have pre32 : ∀ t, Steps p.tables e below (T31.setTop (mkF m 38 #[iv p0, iv p1, iv p2, iv ch, .unset, .unset, .unset, .unset] [(.int (1 : Int32))])) t → Steps p.tables e below (s₁.setTop (entryFrame m #[(.int p0), (.int p1), (.int p2)] maxLocals)) t := by
        intro t kt
        refine pre30 _ ?_
        show Steps p.tables e below (s₁.setTop (mkF m 27 #[iv p0, iv p1, iv p2, iv ch, .unset, .unset, .unset, .unset] [(.int ch)])) _
        refine st31 _ ?_
        show Steps p.tables e below (T31.setTop (mkF m 30 #[iv p0, iv p1, iv p2, iv ch, .unset, .unset, .unset, .unset] [(.int (0 : Int32))])) _
        refine XS.ifNo X31.here hx rfl (hb hby at_30) rfl ((if0 _ _).trans (teq (by decide)).2) ?_
        refine XS.iconst X31.here hx rfl (hb hby at_33) ?_
        refine XS.goto X31.here hx rfl (pc0 := 34) (pc' := 38) rfl (hb hby at_34) (by decide) (by decide) ?_
        exact kt
      obtain ⟨fs, hr, hrun, hended, hRW⟩ := Jvm.Stand.leaveW (s := s) (vm₁ := s.vm) X31 hS0 (by rw [hh31]; exact (Nat.le_refl _)) (v := some (.int (1 : Int32))) (fun h => by rw [Bd.returns] at h; cases h)
      refine ⟨_, _, pre32 _ ?_, hrun, hended, _, _, rfl, ?_, hRW.1, hRW.2.1, hRW.2.2.1, hRW.2.2.2.mono (by decide) (by decide)⟩
      · show Steps p.tables e below (T31.setTop (mkF m 38 #[iv p0, iv p1, iv p2, iv ch, .unset, .unset, .unset, .unset] [(.int (1 : Int32))])) _
        exact retN X31 hx (t := .boolean) Bd.returns (by simp) (hb hby at_38) hr
      · show Q0 Z p0 p1 p2 cs fm h0 n0 _ T31.heap _
        rw [hh31]
        exact ⟨rfl, N31⟩
set_option maxRecDepth 65536 in
set_option maxHeartbeats 40000000 in
theorem comes_1 {Post : Tables → Env → Array Value → State → Outcome → State → Prop} (hpost : ∀ tb e args s v u, (limb_1_1.after args s (.returned v) u = true ∧ limb_1_2.after args s (.returned v) u = true ∧ True) → ReturnedEndW s (.returned v) u (Jvm.fieldLocs frame_1_writes args s ++ Jvm.arrayLocs frame_1_arrays args s ++ Jvm.staticLocs frame_1_statics s) 32 1152 → Post tb e args s (.returned v) u) :
    ArmFor flags0 classFile x code maxLocals ret World_1 tables_1 room_1 Calls_1 rest_1 Pre_1 Post := by
  intro l hfl _ _ p e ha hc hk s m args below hf hA hF happ hP
  obtain ⟨hcalls, hrest, hpre⟩ := hP
  obtain ⟨-, -, -, hnamed, -, -, -, hat⟩ := (Spec.applies_iff hf).mp happ
  obtain ⟨hg, hn⟩ := and_e (Cond.before_iff.mp (show (Jvm.Cond.and given_1 narrow_1).before args s = true from hpre))
  obtain ⟨gg1, gg2⟩ := and_e hg
  obtain ⟨gg3, gg4⟩ := and_e gg2
  obtain ⟨gg5, gg6⟩ := and_e gg4
  obtain ⟨w0, w1, w2, rfl⟩ : ∃ w0 w1 w2 : Value, args = #[w0, w1, w2] := by
    have hs : args.size = 3 := by simpa [Cond.value, given_1] using gg1
    obtain ⟨L⟩ := args
    match L, hs with
    | [w0, w1, w2], _ => exact ⟨w0, w1, w2, rfl⟩
  have hw := fun d (hd : d ∈ tables_1) => atoms_spec (ws := Jvm.Cond.code x code maxLocals ret :: tables_1) hat d (List.mem_cons_of_mem _ hd)
  have hfit : Fit s := fun {y c} hc i hi => by
    obtain ⟨ha, rfl⟩ := Array.getElem?_eq_some_iff.mp hc
    have q := List.all_eq_true.mp ((Array.all_eq_true_iff_forall_mem.mp hF) _ (Array.getElem_mem ha)) i (List.mem_range.mpr hi)
    simpa [Array.getElem?_eq_getElem hi] using q
  obtain ⟨hsets, hown0⟩ := atoms_of _ (rest_1_c_eq ▸ (show rest_1_c.before _ s = true from hrest))
  have hr0 := Cond.before_iff.mp hown0
  obtain ⟨i0, ei0⟩ := is_v gg3
  obtain rfl : w0 = (.int i0) := Option.some.inj ei0
  obtain ⟨i1, ei1⟩ := is_v gg5
  obtain rfl : w1 = (.int i1) := Option.some.inj ei1
  obtain ⟨i2, ei2⟩ := is_v gg6
  obtain rfl : w2 = (.int i2) := Option.some.inj ei2
  have rc0 := Cond.before_iff.mp (hsets _ (List.mem_of_getElem? (i := 1) rfl))
  obtain ⟨cs, ecs⟩ := is_v rc0
  have Scs := Sta.start ecs (Or.inl (hsets _ (List.mem_of_getElem? (i := 0) rfl)))
  have rc1 := not_v (Cond.before_iff.mp (hsets _ (List.mem_of_getElem? (i := 2) rfl)))
  have hcs : ¬ (cs = (0 : Int32)) := fun q => by
    have e : (Jvm.Cond.eq (Jvm.Term.static "java/lang/String" "COMPACT_STRINGS" "Z") (Jvm.Term.int (0 : Int32))).value #[.int i0, .int i1, .int i2] s none s [] = some (decide (cs = (0 : Int32))) := by simp [Cond.value, ecs, Term.int_eval]
    rw [e] at rc1
    simp [q] at rc1
  have rf0 := Cond.before_iff.mp (hsets _ (List.mem_of_getElem? (i := 8) rfl))
  obtain ⟨fm, efm, hr_fm⟩ := isR_v rf0
  have Sfm := Sta.start efm (Or.inl (hsets _ (List.mem_of_getElem? (i := 7) rfl)))
  have hHs : CHv s consts_1 s.vm s.heap := CHv.start (own_EW hw) (fun p hp => hcalls.1 p hp) (hsets _ (List.mem_of_getElem? (i := 2) rfl)) (hw _ (List.mem_of_getElem? (i := 19) rfl)) (hw _ (List.mem_of_getElem? (i := 15) rfl))
  obtain ⟨n, o, h1, h2, h3, _, L, rfl, ⟨rfl, N⟩, hq⟩ := rm0 l s _ hw tables_1 i0 i1 i2 cs fm s.heap s.heap.size (Nat.le_refl _) (Old.start s) Scs hcs Sfm hr_fm p e ha hc hk s m _ below hf ((Spec.applies_iff_loose hf).mp happ).1 ⟨rfl, State.Warmed39.refl s, rfl, hHs⟩ trivial
  refine ⟨n, _, h1, h2, h3, hpost _ _ _ _ _ _ ⟨Cond.after_iff.mpr rfl, Cond.after_iff.mpr (eq_i res_at (Term.int_eval (1)) rfl), trivial⟩ ⟨hq.1, hq.2.1, hq.2.2.1, (hq.2.2.2.sift fun y hy => Or.inr (N y hy)).mono (by decide) (by decide)⟩⟩
theorem main_1_1 : Claimed_1_1 := comes_1 fun _ _ _ _ _ _ h hF => ⟨h.1, hF⟩
theorem main_1_2 : Claimed_1_2 := comes_1 fun _ _ _ _ _ _ h hF => ⟨h.2.1, hF⟩
end Jvm.Pilot.@@N@@
namespace Jvm.Pilot.@@N@@
open Jvm Jvm.ClassFile Sem Op Lib Jvm.Free Jvm.Stand Jvm.Pilot.@@N@@.Jvm.D
/-! MADE BY PROGRAM (witnessworld.py) out of the Statement's table words and the real class files: 24 classes; the members and pool entries that the words name. The judged class is class 1, her method 1. -/
namespace start1
open Jvm.ClassFile
def u (s : String) : CpInfo := .utf8 (stringToUtf16 s)
/-- a pool by its gaps: so many unusable entries, then the entry; so many at the end -/
def gap : Nat → List CpInfo → List CpInfo
  | 0, r => r
  | n + 1, r => .unusable :: gap n r
def poolList (es : List (Nat × CpInfo)) (last : Nat) : List CpInfo := es.foldr (fun e r => gap e.1 (e.2 :: r)) (gap last [])
def pool (es : List (Nat × CpInfo)) (last : Nat) : Array CpInfo := ⟨poolList es last⟩
def fileOf (pool : Array CpInfo) (this : Nat) (attrs : Array Attribute := #[]) (ms : Array MethodInfo := #[]) (fl : Nat := 33) (sup : Nat := 0) (ifs : Array Nat := #[]) (fds : Array FieldInfo := #[]) : ClassFile where
  minorVersion := 0
  majorVersion := 65
  constantPool := pool
  accessFlags := fl
  thisClass := this
  superClass := sup
  interfaces := ifs
  fields := fds
  methods := ms
  attributes := attrs
def plain (name : String) (sup : Option ClassId) : Class where
  name := name
  kind := .ordinary
  loader := none
  accessFlags := 33
  super := sup
  interfaces := #[]
  cf := none
  fields := #[]
  methods := #[]
  instanceTypes := #[]
  staticTypes := #[]
  resolved := #[]
  callSites := []
  init := .initialized
  statics := none
  mirror := none

def pool0 : Array CpInfo := pool [(5, u "<init>"), (0, u "()V"), (1, .class_ 10), (1, u "java/lang/Object")] 113

def k0c0 : Code := { maxStack := 0, maxLocals := 1, code := object_method_1_code, exceptionTable := #[], attributes := #[] }
def k0m0 : Method := { name := "<init>", desc := "()V", sig := { parameters := [], returnType := none }, accessFlags := 1, code := some k0c0 }
/-- java/lang/Object -/
def k0 : Class := { plain "java/lang/Object" none with
  accessFlags := 33
  interfaces := #[]
  cf := some (fileOf pool0 8 #[] #[{ accessFlags := 1, nameIndex := 5, descriptorIndex := 6, attributes := #[] }] 33 0 #[] #[])
  fields := #[]
  methods := #[k0m0]
  instanceTypes := #[]
  staticTypes := #[]
  resolved := Array.replicate 124 none
  statics := none }

def pool1 : Array CpInfo := pool [(2, .class_ 4), (1, u "java/lang/Object"), (0, u "<init>"), (0, u "()V"), (0, .methodref 8 9), (0, .class_ 10), (0, .nameAndType 11 12), (0, u "com/example/subject/subject/model/Wildcards"), (0, u "isWildcard"), (0, u "(I)Z"), (0, .integer 2147483647), (0, .methodref 15 16), (0, .class_ 17), (0, .nameAndType 18 19), (0, u "java/lang/String"), (0, u "valueOf"), (0, u "(C)Ljava/lang/String;"), (0, .methodref 8 21), (0, .nameAndType 22 23), (0, u "matches"), (0, u "(Ljava/lang/String;Ljava/lang/String;)Z"), (0, .class_ 25), (0, u "com/example/subject/subject/model/WildcardsIsWildcardPinLaw"), (2, u "law"), (0, u "(III)Z")] 3

def k1m0 : Method := { name := "<init>", desc := "()V", sig := { parameters := [], returnType := none }, accessFlags := 2, code := none }
def k1c1 : Code := { maxStack := 3, maxLocals := 8, code := code, exceptionTable := #[], attributes := #[] }
def k1m1 : Method := { name := "law", desc := "(III)Z", sig := { parameters := [.int, .int, .int], returnType := some .boolean }, accessFlags := 9, code := some k1c1 }
/-- com/example/subject/subject/model/WildcardsIsWildcardPinLaw -/
def k1 : Class := { plain "com/example/subject/subject/model/WildcardsIsWildcardPinLaw" (some 0) with
  accessFlags := 49
  interfaces := #[]
  cf := some (fileOf pool1 24 #[] #[{ accessFlags := 2, nameIndex := 5, descriptorIndex := 6, attributes := #[] }, { accessFlags := 9, nameIndex := 28, descriptorIndex := 29, attributes := #[] }] 49 2 #[] #[])
  fields := #[]
  methods := #[k1m0, k1m1]
  instanceTypes := #[]
  staticTypes := #[]
  resolved := Array.replicate 33 none
  statics := none }

def pool2 : Array CpInfo := pool [(1, .methodref 2 3), (0, .class_ 4), (0, .nameAndType 5 6), (0, u "java/lang/Object"), (0, u "<init>"), (0, u "()V"), (0, .fieldref 8 9), (0, .class_ 10), (0, .nameAndType 11 12), (0, u "com/example/subject/subject/model/Wildcards"), (0, u "pattern"), (0, u "Ljava/lang/String;"), (0, .methodref 14 15), (0, .class_ 16), (0, .nameAndType 17 18), (0, u "java/lang/String"), (0, u "indexOf"), (0, u "(I)I"), (0, .fieldref 8 20), (0, .nameAndType 21 22), (0, u "firstStar"), (0, u "I"), (0, .methodref 14 24), (0, .nameAndType 25 18), (0, u "lastIndexOf"), (0, .fieldref 8 27), (0, .nameAndType 28 22), (0, u "lastStar"), (0, .class_ 30), (0, u "com/example/subject/subject/model/Wildcards$Places"), (0, .methodref 29 32), (0, .nameAndType 5 33), (0, u "(Ljava/lang/String;)V"), (0, .fieldref 8 35), (0, .nameAndType 36 37), (0, u "places"), (0, u "Lcom/example/subject/subject/model/Wildcards$Places;"), (0, .string 39), (0, u "**"), (0, .methodref 14 41), (0, .nameAndType 42 43), (0, u "contains"), (0, u "(Ljava/lang/CharSequence;)Z"), (3, .methodref 14 48), (0, .nameAndType 49 50), (0, u "length"), (0, u "()I"), (0, .methodref 14 52), (0, .nameAndType 53 54), (0, u "charAt"), (0, u "(I)C"), (8, .methodref 8 32), (14, .methodref 8 79), (0, .nameAndType 80 81), (0, u "compile"), (0, u "(Ljava/lang/String;)Lcom/example/subject/subject/model/Wildcards;"), (0, .methodref 8 83), (0, .nameAndType 84 85), (0, u "matches"), (0, u "(Ljava/lang/String;)Z"), (6, .methodref 8 93), (0, .nameAndType 94 95), (0, u "fitsAt"), (0, u "(IILjava/lang/String;I)Z"), (0, .methodref 14 97), (0, .nameAndType 17 98), (0, u "(II)I"), (49, u "ANY_RUN"), (0, u "C"), (2, u "ANY_ONE"), (1, u "ASCII"), (4, u "isWildcard"), (0, u "(I)Z"), (1, u "(Ljava/lang/String;Ljava/lang/String;)Z")] 28

def k2c0 : Code := { maxStack := 4, maxLocals := 2, code := prog_51_method_1_code, exceptionTable := #[], attributes := #[] }
def k2m0 : Method := { name := "<init>", desc := "(Ljava/lang/String;)V", sig := { parameters := [(.object "java/lang/String")], returnType := none }, accessFlags := 2, code := some k2c0 }
def k2c1 : Code := { maxStack := 3, maxLocals := 5, code := prog_51_method_2_code, exceptionTable := #[], attributes := #[] }
def k2m1 : Method := { name := "compile", desc := "(Ljava/lang/String;)Lcom/example/subject/subject/model/Wildcards;", sig := { parameters := [(.object "java/lang/String")], returnType := some (.object "com/example/subject/subject/model/Wildcards") }, accessFlags := 8, code := some k2c1 }
def k2c2 : Code := { maxStack := 2, maxLocals := 1, code := prog_51_method_3_code, exceptionTable := #[], attributes := #[] }
def k2m2 : Method := { name := "isWildcard", desc := "(I)Z", sig := { parameters := [.int], returnType := some .boolean }, accessFlags := 8, code := some k2c2 }
def k2c3 : Code := { maxStack := 2, maxLocals := 2, code := prog_51_method_5_code, exceptionTable := #[], attributes := #[] }
def k2m3 : Method := { name := "matches", desc := "(Ljava/lang/String;Ljava/lang/String;)Z", sig := { parameters := [(.object "java/lang/String"), (.object "java/lang/String")], returnType := some .boolean }, accessFlags := 8, code := some k2c3 }
def k2c4 : Code := { maxStack := 6, maxLocals := 6, code := prog_51_method_7_code, exceptionTable := #[], attributes := #[] }
def k2m4 : Method := { name := "matches", desc := "(Ljava/lang/String;)Z", sig := { parameters := [(.object "java/lang/String")], returnType := some .boolean }, accessFlags := 0, code := some k2c4 }
def k2c5 : Code := { maxStack := 4, maxLocals := 7, code := prog_51_method_12_code, exceptionTable := #[], attributes := #[] }
def k2m5 : Method := { name := "fitsAt", desc := "(IILjava/lang/String;I)Z", sig := { parameters := [.int, .int, (.object "java/lang/String"), .int], returnType := some .boolean }, accessFlags := 2, code := some k2c5 }
/-- com/example/subject/subject/model/Wildcards -/
def k2 : Class := { plain "com/example/subject/subject/model/Wildcards" (some 0) with
  accessFlags := 48
  interfaces := #[]
  cf := some (fileOf pool2 8 #[.nestMembers #[29]] #[{ accessFlags := 2, nameIndex := 5, descriptorIndex := 33, attributes := #[] }, { accessFlags := 8, nameIndex := 80, descriptorIndex := 81, attributes := #[] }, { accessFlags := 8, nameIndex := 159, descriptorIndex := 160, attributes := #[] }, { accessFlags := 8, nameIndex := 84, descriptorIndex := 162, attributes := #[] }, { accessFlags := 0, nameIndex := 84, descriptorIndex := 85, attributes := #[] }, { accessFlags := 2, nameIndex := 94, descriptorIndex := 95, attributes := #[] }] 48 2 #[] #[{ accessFlags := 24, nameIndex := 148, descriptorIndex := 149, attributes := #[] }, { accessFlags := 24, nameIndex := 152, descriptorIndex := 149, attributes := #[] }, { accessFlags := 26, nameIndex := 154, descriptorIndex := 22, attributes := #[] }, { accessFlags := 18, nameIndex := 11, descriptorIndex := 12, attributes := #[] }, { accessFlags := 18, nameIndex := 21, descriptorIndex := 22, attributes := #[] }, { accessFlags := 18, nameIndex := 28, descriptorIndex := 22, attributes := #[] }, { accessFlags := 18, nameIndex := 36, descriptorIndex := 37, attributes := #[] }])
  fields := #[{ name := "ANY_RUN", type := .char, accessFlags := 24, slot := 0, constantValue := 0 }, { name := "ANY_ONE", type := .char, accessFlags := 24, slot := 1, constantValue := 0 }, { name := "ASCII", type := .int, accessFlags := 26, slot := 2, constantValue := 0 }, { name := "pattern", type := (.object "java/lang/String"), accessFlags := 18, slot := 0, constantValue := 0 }, { name := "firstStar", type := .int, accessFlags := 18, slot := 1, constantValue := 0 }, { name := "lastStar", type := .int, accessFlags := 18, slot := 2, constantValue := 0 }, { name := "places", type := (.object "com/example/subject/subject/model/Wildcards$Places"), accessFlags := 18, slot := 3, constantValue := 0 }]
  methods := #[k2m0, k2m1, k2m2, k2m3, k2m4, k2m5]
  instanceTypes := #[(.object "java/lang/String"), .int, .int, (.object "com/example/subject/subject/model/Wildcards$Places")]
  staticTypes := #[.char, .char, .int]
  resolved := Array.replicate 191 none
  statics := none }

def pool3 : Array CpInfo := pool [(1, .class_ 2), (0, u "java/io/Serializable"), (0, .class_ 4), (0, u "java/lang/Object")] 2

/-- java/io/Serializable -/
def k3 : Class := { plain "java/io/Serializable" (some 0) with
  accessFlags := 1537
  interfaces := #[]
  cf := some (fileOf pool3 1 #[] #[] 1537 3 #[] #[])
  fields := #[]
  methods := #[]
  instanceTypes := #[]
  staticTypes := #[]
  resolved := Array.replicate 7 none
  statics := none }

def pool4 : Array CpInfo := pool [(1, .class_ 2), (0, u "java/lang/Comparable"), (0, .class_ 4), (0, u "java/lang/Object")] 7

/-- java/lang/Comparable -/
def k4 : Class := { plain "java/lang/Comparable" (some 0) with
  accessFlags := 1537
  interfaces := #[]
  cf := some (fileOf pool4 1 #[] #[] 1537 3 #[] #[])
  fields := #[]
  methods := #[]
  instanceTypes := #[]
  staticTypes := #[]
  resolved := Array.replicate 12 none
  statics := none }

def pool5 : Array CpInfo := pool [(2, .class_ 4), (1, u "java/lang/CharSequence"), (42, .class_ 48), (0, u "java/lang/CharSequence$1CodePointIterator"), (10, .class_ 60), (0, u "java/lang/CharSequence$1CharIterator"), (5, .class_ 67), (0, u "java/lang/Object"), (10, u "toString"), (0, u "()Ljava/lang/String;")] 51

def k5m0 : Method := { name := "toString", desc := "()Ljava/lang/String;", sig := { parameters := [], returnType := some (.object "java/lang/String") }, accessFlags := 1025, code := none }
/-- java/lang/CharSequence -/
def k5 : Class := { plain "java/lang/CharSequence" (some 0) with
  accessFlags := 1537
  interfaces := #[]
  cf := some (fileOf pool5 2 #[.nestMembers #[47, 59]] #[{ accessFlags := 1025, nameIndex := 78, descriptorIndex := 79, attributes := #[] }] 1537 66 #[] #[])
  fields := #[]
  methods := #[k5m0]
  instanceTypes := #[]
  staticTypes := #[]
  resolved := Array.replicate 131 none
  statics := none }

def pool6 : Array CpInfo := pool [(1, .class_ 2), (0, u "java/lang/constant/Constable"), (0, .class_ 4), (0, u "java/lang/Object")] 6

/-- java/lang/constant/Constable -/
def k6 : Class := { plain "java/lang/constant/Constable" (some 0) with
  accessFlags := 1537
  interfaces := #[]
  cf := some (fileOf pool6 1 #[] #[] 1537 3 #[] #[])
  fields := #[]
  methods := #[]
  instanceTypes := #[]
  staticTypes := #[]
  resolved := Array.replicate 11 none
  statics := none }

def pool7 : Array CpInfo := pool [(1, .class_ 2), (0, u "java/lang/constant/ConstantDesc"), (0, .class_ 4), (0, u "java/lang/Object")] 32

/-- java/lang/constant/ConstantDesc -/
def k7 : Class := { plain "java/lang/constant/ConstantDesc" (some 0) with
  accessFlags := 1537
  interfaces := #[]
  cf := some (fileOf pool7 1 #[] #[] 1537 3 #[] #[])
  fields := #[]
  methods := #[]
  instanceTypes := #[]
  staticTypes := #[]
  resolved := Array.replicate 37 none
  statics := none }

def pool8 : Array CpInfo := pool [(1, .methodref 2 3), (0, .class_ 4), (0, .nameAndType 5 6), (0, u "java/lang/Object"), (0, u "<init>"), (0, u "()V"), (2, .fieldref 10 11), (0, .class_ 12), (0, .nameAndType 13 14), (0, u "java/lang/String"), (0, u "value"), (0, u "[B"), (0, .fieldref 10 16), (0, .nameAndType 17 18), (0, u "coder"), (0, u "B"), (2, u "hash"), (0, u "I"), (2, u "hashIsZero"), (0, u "Z"), (11, .fieldref 10 39), (0, .nameAndType 40 26), (0, u "COMPACT_STRINGS"), (12, u "toBytes"), (43, u "([BII)I"), (9, .class_ 109), (1, u "java/lang/StringLatin1"), (32, u "()Z"), (66, .methodref 10 210), (0, .nameAndType 5 211), (0, u "([BB)V"), (122, u "()I"), (0, .methodref 10 336), (0, .nameAndType 17 337), (0, u "()B"), (25, u "([BI)C"), (5, u "(C)Z"), (21, u "(II)V"), (35, u "(I)C"), (34, .nameAndType 463 464), (0, u "toString"), (0, u "()Ljava/lang/String;"), (27, .methodref 10 493), (0, .nameAndType 494 142), (0, u "isLatin1"), (0, .methodref 107 496), (0, .nameAndType 497 363), (0, u "charAt"), (3, u "checkIndex"), (3, .methodref 10 506), (0, .nameAndType 507 334), (0, u "length"), (40, u "(Ljava/lang/CharSequence;)Z"), (26, .class_ 576), (0, u "java/lang/CharSequence"), (12, u "([B[B)I"), (9, u "CASE_INSENSITIVE_ORDER"), (0, u "Ljava/util/Comparator;"), (32, .methodref 10 634), (0, .nameAndType 635 636), (0, u "indexOf"), (0, u "(II)I"), (0, .methodref 107 638), (0, .nameAndType 635 639), (0, u "([BIII)I"), (1, .methodref 10 642), (0, .nameAndType 643 636), (0, u "lastIndexOf"), (0, .methodref 107 645), (0, .nameAndType 643 97), (1, .methodref 107 648), (0, .nameAndType 635 589), (61, .interfaceMethodref 575 462), (0, .methodref 10 712), (0, .nameAndType 635 713), (0, u "(Ljava/lang/String;)I"), (51, u "(I)I"), (16, u "valueOf"), (0, u "(C)Ljava/lang/String;"), (231, .methodref 107 1016), (0, .nameAndType 1017 369), (0, u "canEncode"), (0, .methodref 107 1019), (0, .nameAndType 53 1020), (0, u "(C)[B"), (32, .fieldref 1054 1055), (0, .class_ 1056), (0, .nameAndType 1057 1058), (0, u "jdk/internal/util/Preconditions"), (0, u "SIOOBE_FORMATTER"), (0, u "Ljava/util/function/BiFunction;"), (0, .methodref 1054 1060), (0, .nameAndType 501 1061), (0, u "(IILjava/util/function/BiFunction;)I"), (39, u "serialPersistentFields"), (0, u "[Ljava/io/ObjectStreamField;"), (0, .class_ 1104), (0, u "java/lang/String$CaseInsensitiveComparator"), (1, .class_ 1107), (0, u "java/io/Serializable"), (0, .class_ 1109), (0, u "java/lang/Comparable"), (0, .class_ 1111), (0, u "java/lang/constant/Constable"), (0, .class_ 1113), (0, u "java/lang/constant/ConstantDesc"), (2, u "serialVersionUID"), (0, u "J"), (3, u "REPL"), (0, u "C"), (2, u "LATIN1"), (1, u "UTF16"), (163, u "contains")] 159

def k8m0 : Method := { name := "<init>", desc := "()V", sig := { parameters := [], returnType := none }, accessFlags := 1, code := none }
def k8c1 : Code := { maxStack := 2, maxLocals := 1, code := jdk_42_method_54_code, exceptionTable := #[], attributes := #[] }
def k8m1 : Method := { name := "length", desc := "()I", sig := { parameters := [], returnType := some .int }, accessFlags := 1, code := some k8c1 }
def k8c2 : Code := { maxStack := 2, maxLocals := 2, code := jdk_42_method_56_code, exceptionTable := #[], attributes := #[] }
def k8m2 : Method := { name := "charAt", desc := "(I)C", sig := { parameters := [.int], returnType := some .char }, accessFlags := 1, code := some k8c2 }
def k8c3 : Code := { maxStack := 3, maxLocals := 2, code := jdk_42_method_79_code, exceptionTable := #[], attributes := #[] }
def k8m3 : Method := { name := "indexOf", desc := "(I)I", sig := { parameters := [.int], returnType := some .int }, accessFlags := 1, code := some k8c3 }
def k8c4 : Code := { maxStack := 4, maxLocals := 3, code := jdk_42_method_80_code, exceptionTable := #[], attributes := #[] }
def k8m4 : Method := { name := "indexOf", desc := "(II)I", sig := { parameters := [.int, .int], returnType := some .int }, accessFlags := 1, code := some k8c4 }
def k8c5 : Code := { maxStack := 4, maxLocals := 2, code := jdk_42_method_82_code, exceptionTable := #[], attributes := #[] }
def k8m5 : Method := { name := "lastIndexOf", desc := "(I)I", sig := { parameters := [.int], returnType := some .int }, accessFlags := 1, code := some k8c5 }
def k8c6 : Code := { maxStack := 3, maxLocals := 3, code := jdk_42_method_83_code, exceptionTable := #[], attributes := #[] }
def k8m6 : Method := { name := "lastIndexOf", desc := "(II)I", sig := { parameters := [.int, .int], returnType := some .int }, accessFlags := 1, code := some k8c6 }
def k8c7 : Code := { maxStack := 2, maxLocals := 3, code := jdk_42_method_84_code, exceptionTable := #[], attributes := #[] }
def k8m7 : Method := { name := "indexOf", desc := "(Ljava/lang/String;)I", sig := { parameters := [(.object "java/lang/String")], returnType := some .int }, accessFlags := 1, code := some k8c7 }
def k8c8 : Code := { maxStack := 2, maxLocals := 2, code := jdk_42_method_97_code, exceptionTable := #[], attributes := #[] }
def k8m8 : Method := { name := "contains", desc := "(Ljava/lang/CharSequence;)Z", sig := { parameters := [(.object "java/lang/CharSequence")], returnType := some .boolean }, accessFlags := 1, code := some k8c8 }
def k8c9 : Code := { maxStack := 1, maxLocals := 1, code := jdk_42_method_126_code, exceptionTable := #[], attributes := #[] }
def k8m9 : Method := { name := "toString", desc := "()Ljava/lang/String;", sig := { parameters := [], returnType := some (.object "java/lang/String") }, accessFlags := 1, code := some k8c9 }
def k8c10 : Code := { maxStack := 4, maxLocals := 1, code := jdk_42_method_139_code, exceptionTable := #[], attributes := #[] }
def k8m10 : Method := { name := "valueOf", desc := "(C)Ljava/lang/String;", sig := { parameters := [.char], returnType := some (.object "java/lang/String") }, accessFlags := 9, code := some k8c10 }
def k8c11 : Code := { maxStack := 2, maxLocals := 3, code := jdk_42_method_151_code, exceptionTable := #[], attributes := #[] }
def k8m11 : Method := { name := "<init>", desc := "([BB)V", sig := { parameters := [(.array .byte), .byte], returnType := none }, accessFlags := 0, code := some k8c11 }
def k8c12 : Code := { maxStack := 1, maxLocals := 1, code := jdk_42_method_152_code, exceptionTable := #[], attributes := #[] }
def k8m12 : Method := { name := "coder", desc := "()B", sig := { parameters := [], returnType := some .byte }, accessFlags := 0, code := some k8c12 }
def k8c13 : Code := { maxStack := 1, maxLocals := 1, code := jdk_42_method_154_code, exceptionTable := #[], attributes := #[] }
def k8m13 : Method := { name := "isLatin1", desc := "()Z", sig := { parameters := [], returnType := some .boolean }, accessFlags := 0, code := some k8c13 }
def k8c14 : Code := { maxStack := 3, maxLocals := 2, code := jdk_42_method_155_code, exceptionTable := #[], attributes := #[] }
def k8m14 : Method := { name := "checkIndex", desc := "(II)V", sig := { parameters := [.int, .int], returnType := none }, accessFlags := 8, code := some k8c14 }
/-- java/lang/String -/
def k8 : Class := { plain "java/lang/String" (some 0) with
  accessFlags := 49
  interfaces := #[3, 4, 5, 6, 7]
  cf := some (fileOf pool8 10 #[.nestMembers #[1103]] #[{ accessFlags := 1, nameIndex := 5, descriptorIndex := 6, attributes := #[] }, { accessFlags := 1, nameIndex := 507, descriptorIndex := 334, attributes := #[] }, { accessFlags := 1, nameIndex := 497, descriptorIndex := 427, attributes := #[] }, { accessFlags := 1, nameIndex := 635, descriptorIndex := 765, attributes := #[] }, { accessFlags := 1, nameIndex := 635, descriptorIndex := 636, attributes := #[] }, { accessFlags := 1, nameIndex := 643, descriptorIndex := 765, attributes := #[] }, { accessFlags := 1, nameIndex := 643, descriptorIndex := 636, attributes := #[] }, { accessFlags := 1, nameIndex := 635, descriptorIndex := 713, attributes := #[] }, { accessFlags := 1, nameIndex := 1291, descriptorIndex := 548, attributes := #[] }, { accessFlags := 1, nameIndex := 463, descriptorIndex := 464, attributes := #[] }, { accessFlags := 9, nameIndex := 782, descriptorIndex := 783, attributes := #[] }, { accessFlags := 0, nameIndex := 5, descriptorIndex := 211, attributes := #[] }, { accessFlags := 0, nameIndex := 17, descriptorIndex := 337, attributes := #[] }, { accessFlags := 0, nameIndex := 494, descriptorIndex := 142, attributes := #[] }, { accessFlags := 8, nameIndex := 501, descriptorIndex := 391, attributes := #[] }] 49 2 #[1106, 1108, 575, 1110, 1112] #[{ accessFlags := 18, nameIndex := 13, descriptorIndex := 14, attributes := #[] }, { accessFlags := 18, nameIndex := 17, descriptorIndex := 18, attributes := #[] }, { accessFlags := 2, nameIndex := 21, descriptorIndex := 22, attributes := #[] }, { accessFlags := 2, nameIndex := 25, descriptorIndex := 26, attributes := #[] }, { accessFlags := 26, nameIndex := 1116, descriptorIndex := 1117, attributes := #[] }, { accessFlags := 24, nameIndex := 40, descriptorIndex := 26, attributes := #[] }, { accessFlags := 26, nameIndex := 1101, descriptorIndex := 1102, attributes := #[] }, { accessFlags := 26, nameIndex := 1121, descriptorIndex := 1122, attributes := #[] }, { accessFlags := 25, nameIndex := 599, descriptorIndex := 600, attributes := #[] }, { accessFlags := 24, nameIndex := 1125, descriptorIndex := 18, attributes := #[] }, { accessFlags := 24, nameIndex := 1127, descriptorIndex := 18, attributes := #[] }])
  fields := #[{ name := "value", type := (.array .byte), accessFlags := 18, slot := 0, constantValue := 0 }, { name := "coder", type := .byte, accessFlags := 18, slot := 1, constantValue := 0 }, { name := "hash", type := .int, accessFlags := 2, slot := 2, constantValue := 0 }, { name := "hashIsZero", type := .boolean, accessFlags := 2, slot := 3, constantValue := 0 }, { name := "serialVersionUID", type := .long, accessFlags := 26, slot := 0, constantValue := 0 }, { name := "COMPACT_STRINGS", type := .boolean, accessFlags := 24, slot := 1, constantValue := 0 }, { name := "serialPersistentFields", type := (.array (.object "java/io/ObjectStreamField")), accessFlags := 26, slot := 2, constantValue := 0 }, { name := "REPL", type := .char, accessFlags := 26, slot := 3, constantValue := 0 }, { name := "CASE_INSENSITIVE_ORDER", type := (.object "java/util/Comparator"), accessFlags := 25, slot := 4, constantValue := 0 }, { name := "LATIN1", type := .byte, accessFlags := 24, slot := 5, constantValue := 0 }, { name := "UTF16", type := .byte, accessFlags := 24, slot := 6, constantValue := 0 }]
  methods := #[k8m0, k8m1, k8m2, k8m3, k8m4, k8m5, k8m6, k8m7, k8m8, k8m9, k8m10, k8m11, k8m12, k8m13, k8m14]
  instanceTypes := #[(.array .byte), .byte, .int, .boolean]
  staticTypes := #[.long, .boolean, (.array (.object "java/io/ObjectStreamField")), .char, (.object "java/util/Comparator"), .byte, .byte]
  resolved := Array.replicate 1451 none
  statics := some 0 }

def pool9 : Array CpInfo := pool [(1, .class_ 2), (0, u "java/lang/String"), (1, .class_ 6), (1, u "java/lang/Object"), (0, u "<init>"), (0, u "()V"), (0, .methodref 1 10), (0, .nameAndType 11 12), (0, u "checkIndex"), (0, u "(II)V"), (1, .class_ 16), (1, u "java/lang/StringLatin1"), (21, .methodref 39 40), (0, .class_ 41), (0, .nameAndType 42 43), (0, u "java/lang/Math"), (0, u "min"), (0, u "(II)I"), (9, u "([BI)C"), (34, .methodref 14 89), (0, .nameAndType 90 91), (0, u "canEncode"), (0, u "(I)Z"), (0, .methodref 39 93), (0, .nameAndType 94 43), (0, u "max"), (0, .methodref 14 96), (0, .nameAndType 97 98), (0, u "indexOfChar"), (0, u "([BIII)I"), (0, .methodref 14 100), (0, .nameAndType 101 102), (0, u "indexOf"), (0, u "([BI[BII)I"), (2, u "(C)Z"), (15, u "$assertionsDisabled"), (0, u "Z"), (98, .class_ 223), (1, u "java/lang/StringLatin1$LinesSpliterator"), (28, u "charAt"), (8, u "([BII)I"), (25, u "([B[B)I"), (21, u "lastIndexOf"), (70, u "toBytes"), (1, u "(C)[B"), (7, .class_ 391), (0, u "java/lang/StringLatin1$CharsSpliterator")] 3

def k9m0 : Method := { name := "<init>", desc := "()V", sig := { parameters := [], returnType := none }, accessFlags := 0, code := none }
def k9c1 : Code := { maxStack := 2, maxLocals := 2, code := jdk_43_method_2_code, exceptionTable := #[], attributes := #[] }
def k9m1 : Method := { name := "charAt", desc := "([BI)C", sig := { parameters := [(.array .byte), .int], returnType := some .char }, accessFlags := 9, code := some k9c1 }
def k9c2 : Code := { maxStack := 2, maxLocals := 1, code := jdk_43_method_3_code, exceptionTable := #[], attributes := #[] }
def k9m2 : Method := { name := "canEncode", desc := "(C)Z", sig := { parameters := [.char], returnType := some .boolean }, accessFlags := 9, code := some k9c2 }
def k9c3 : Code := { maxStack := 2, maxLocals := 1, code := jdk_43_method_4_code, exceptionTable := #[], attributes := #[] }
def k9m3 : Method := { name := "canEncode", desc := "(I)Z", sig := { parameters := [.int], returnType := some .boolean }, accessFlags := 9, code := some k9c3 }
def k9c4 : Code := { maxStack := 4, maxLocals := 4, code := jdk_43_method_22_code, exceptionTable := #[], attributes := #[] }
def k9m4 : Method := { name := "indexOf", desc := "([BIII)I", sig := { parameters := [(.array .byte), .int, .int, .int], returnType := some .int }, accessFlags := 9, code := some k9c4 }
def k9c5 : Code := { maxStack := 2, maxLocals := 6, code := jdk_43_method_23_code, exceptionTable := #[], attributes := #[] }
def k9m5 : Method := { name := "indexOfChar", desc := "([BIII)I", sig := { parameters := [(.array .byte), .int, .int, .int], returnType := some .int }, accessFlags := 10, code := some k9c5 }
def k9c6 : Code := { maxStack := 5, maxLocals := 2, code := jdk_43_method_24_code, exceptionTable := #[], attributes := #[] }
def k9m6 : Method := { name := "indexOf", desc := "([B[B)I", sig := { parameters := [(.array .byte), (.array .byte)], returnType := some .int }, accessFlags := 9, code := some k9c6 }
def k9c7 : Code := { maxStack := 3, maxLocals := 11, code := jdk_43_method_25_code, exceptionTable := #[], attributes := #[] }
def k9m7 : Method := { name := "indexOf", desc := "([BI[BII)I", sig := { parameters := [(.array .byte), .int, (.array .byte), .int, .int], returnType := some .int }, accessFlags := 9, code := some k9c7 }
def k9c8 : Code := { maxStack := 3, maxLocals := 4, code := jdk_43_method_27_code, exceptionTable := #[], attributes := #[] }
def k9m8 : Method := { name := "lastIndexOf", desc := "([BII)I", sig := { parameters := [(.array .byte), .int, .int], returnType := some .int }, accessFlags := 9, code := some k9c8 }
def k9c9 : Code := { maxStack := 4, maxLocals := 1, code := jdk_43_method_46_code, exceptionTable := #[], attributes := #[] }
def k9m9 : Method := { name := "toBytes", desc := "(C)[B", sig := { parameters := [.char], returnType := some (.array .byte) }, accessFlags := 9, code := some k9c9 }
/-- java/lang/StringLatin1 -/
def k9 : Class := { plain "java/lang/StringLatin1" (some 0) with
  accessFlags := 48
  interfaces := #[]
  cf := some (fileOf pool9 14 #[.nestMembers #[390, 221]] #[{ accessFlags := 0, nameIndex := 7, descriptorIndex := 8, attributes := #[] }, { accessFlags := 9, nameIndex := 252, descriptorIndex := 53, attributes := #[] }, { accessFlags := 9, nameIndex := 90, descriptorIndex := 105, attributes := #[] }, { accessFlags := 9, nameIndex := 90, descriptorIndex := 91, attributes := #[] }, { accessFlags := 9, nameIndex := 101, descriptorIndex := 98, attributes := #[] }, { accessFlags := 10, nameIndex := 97, descriptorIndex := 98, attributes := #[] }, { accessFlags := 9, nameIndex := 101, descriptorIndex := 287, attributes := #[] }, { accessFlags := 9, nameIndex := 101, descriptorIndex := 102, attributes := #[] }, { accessFlags := 9, nameIndex := 309, descriptorIndex := 261, attributes := #[] }, { accessFlags := 9, nameIndex := 380, descriptorIndex := 382, attributes := #[] }] 48 4 #[] #[{ accessFlags := 4120, nameIndex := 121, descriptorIndex := 122, attributes := #[] }])
  fields := #[{ name := "$assertionsDisabled", type := .boolean, accessFlags := 4120, slot := 0, constantValue := 0 }]
  methods := #[k9m0, k9m1, k9m2, k9m3, k9m4, k9m5, k9m6, k9m7, k9m8, k9m9]
  instanceTypes := #[]
  staticTypes := #[.boolean]
  resolved := Array.replicate 395 none
  statics := none }

def pool10 : Array CpInfo := pool [(1, .class_ 2), (0, u "java/lang/Math"), (1, .class_ 6), (1, u "java/lang/Object"), (0, u "<init>"), (0, u "()V"), (89, .class_ 100), (1, u "java/lang/Math$RandomNumberGeneratorHolder"), (71, u "negativeZeroFloatBits"), (0, u "J"), (2, u "negativeZeroDoubleBits"), (21, u "max"), (2, u "min"), (43, u "$assertionsDisabled"), (0, u "Z"), (88, u "(II)I"), (2, u "twoToTheDoubleScaleDown"), (0, u "D"), (4, u "twoToTheDoubleScaleUp"), (9, u "E"), (3, u "PI"), (2, u "TAU"), (2, u "DEGREES_TO_RADIANS"), (0, u "RADIANS_TO_DEGREES")] 94

def k10m0 : Method := { name := "<init>", desc := "()V", sig := { parameters := [], returnType := none }, accessFlags := 2, code := none }
def k10c1 : Code := { maxStack := 2, maxLocals := 2, code := jdk_29_method_65_code, exceptionTable := #[], attributes := #[] }
def k10m1 : Method := { name := "max", desc := "(II)I", sig := { parameters := [.int, .int], returnType := some .int }, accessFlags := 9, code := some k10c1 }
def k10c2 : Code := { maxStack := 2, maxLocals := 2, code := jdk_29_method_69_code, exceptionTable := #[], attributes := #[] }
def k10m2 : Method := { name := "min", desc := "(II)I", sig := { parameters := [.int, .int], returnType := some .int }, accessFlags := 9, code := some k10c2 }
/-- java/lang/Math -/
def k10 : Class := { plain "java/lang/Math" (some 0) with
  accessFlags := 49
  interfaces := #[]
  cf := some (fileOf pool10 1 #[.nestMembers #[98]] #[{ accessFlags := 2, nameIndex := 7, descriptorIndex := 8, attributes := #[] }, { accessFlags := 9, nameIndex := 198, descriptorIndex := 335, attributes := #[] }, { accessFlags := 9, nameIndex := 201, descriptorIndex := 335, attributes := #[] }] 49 4 #[] #[{ accessFlags := 25, nameIndex := 354, descriptorIndex := 339, attributes := #[] }, { accessFlags := 25, nameIndex := 358, descriptorIndex := 339, attributes := #[] }, { accessFlags := 25, nameIndex := 361, descriptorIndex := 339, attributes := #[] }, { accessFlags := 26, nameIndex := 364, descriptorIndex := 339, attributes := #[] }, { accessFlags := 26, nameIndex := 365, descriptorIndex := 339, attributes := #[] }, { accessFlags := 26, nameIndex := 172, descriptorIndex := 173, attributes := #[] }, { accessFlags := 26, nameIndex := 176, descriptorIndex := 173, attributes := #[] }, { accessFlags := 8, nameIndex := 344, descriptorIndex := 339, attributes := #[] }, { accessFlags := 8, nameIndex := 338, descriptorIndex := 339, attributes := #[] }, { accessFlags := 4120, nameIndex := 245, descriptorIndex := 246, attributes := #[] }])
  fields := #[{ name := "E", type := .double, accessFlags := 25, slot := 0, constantValue := 0 }, { name := "PI", type := .double, accessFlags := 25, slot := 1, constantValue := 0 }, { name := "TAU", type := .double, accessFlags := 25, slot := 2, constantValue := 0 }, { name := "DEGREES_TO_RADIANS", type := .double, accessFlags := 26, slot := 3, constantValue := 0 }, { name := "RADIANS_TO_DEGREES", type := .double, accessFlags := 26, slot := 4, constantValue := 0 }, { name := "negativeZeroFloatBits", type := .long, accessFlags := 26, slot := 5, constantValue := 0 }, { name := "negativeZeroDoubleBits", type := .long, accessFlags := 26, slot := 6, constantValue := 0 }, { name := "twoToTheDoubleScaleUp", type := .double, accessFlags := 8, slot := 7, constantValue := 0 }, { name := "twoToTheDoubleScaleDown", type := .double, accessFlags := 8, slot := 8, constantValue := 0 }, { name := "$assertionsDisabled", type := .boolean, accessFlags := 4120, slot := 9, constantValue := 0 }]
  methods := #[k10m0, k10m1, k10m2]
  instanceTypes := #[]
  staticTypes := #[.double, .double, .double, .double, .double, .long, .long, .double, .double, .boolean]
  resolved := Array.replicate 460 none
  statics := none }

def pool11 : Array CpInfo := pool [(1, .class_ 2), (0, u "com/example/subject/subject/model/Wildcards"), (0, .methodref 4 5), (0, .class_ 6), (0, .nameAndType 7 8), (0, u "java/lang/Object"), (0, u "<init>"), (0, u "()V"), (0, .methodref 10 11), (0, .class_ 12), (0, .nameAndType 13 14), (0, u "java/lang/String"), (0, u "length"), (0, u "()I"), (0, .class_ 16), (0, u "java/lang/Long"), (0, .fieldref 18 19), (0, .class_ 20), (0, .nameAndType 21 22), (0, u "com/example/subject/subject/model/Wildcards$Places"), (0, u "words"), (0, u "I"), (0, .fieldref 18 24), (0, .nameAndType 25 26), (0, u "stars"), (0, u "[J"), (0, .methodref 10 28), (0, .nameAndType 29 30), (0, u "charAt"), (0, u "(I)C"), (8, u "(Ljava/lang/String;)V"), (0, .fieldref 18 41), (0, .nameAndType 42 43), (0, u "heldLow"), (0, u "J"), (0, .fieldref 18 45), (0, .nameAndType 46 43), (0, u "heldHigh"), (0, .methodref 15 48), (0, .nameAndType 49 50), (0, u "bitCount"), (0, u "(J)I"), (0, .fieldref 18 52), (0, .nameAndType 53 26), (0, u "fits"), (0, .methodref 55 56), (0, .class_ 57), (0, .nameAndType 58 59), (0, u "java/lang/System"), (0, u "arraycopy"), (0, u "(Ljava/lang/Object;ILjava/lang/Object;II)V"), (0, .methodref 1 61), (0, .nameAndType 62 63), (0, u "isWildcard"), (0, u "(I)Z"), (0, .methodref 18 65), (0, .nameAndType 66 67), (0, u "slot"), (0, u "(C)I")] 35

def k11c0 : Code := { maxStack := 8, maxLocals := 10, code := prog_52_method_1_code, exceptionTable := #[], attributes := #[] }
def k11m0 : Method := { name := "<init>", desc := "(Ljava/lang/String;)V", sig := { parameters := [(.object "java/lang/String")], returnType := none }, accessFlags := 0, code := some k11c0 }
def k11c1 : Code := { maxStack := 7, maxLocals := 4, code := prog_52_method_6_code, exceptionTable := #[], attributes := #[] }
def k11m1 : Method := { name := "slot", desc := "(C)I", sig := { parameters := [.char], returnType := some .int }, accessFlags := 2, code := some k11c1 }
/-- com/example/subject/subject/model/Wildcards$Places -/
def k11 : Class := { plain "com/example/subject/subject/model/Wildcards$Places" (some 0) with
  accessFlags := 48
  interfaces := #[]
  cf := some (fileOf pool11 18 #[.nestHost 1] #[{ accessFlags := 0, nameIndex := 7, descriptorIndex := 39, attributes := #[] }, { accessFlags := 2, nameIndex := 66, descriptorIndex := 67, attributes := #[] }] 48 4 #[] #[{ accessFlags := 18, nameIndex := 21, descriptorIndex := 22, attributes := #[] }, { accessFlags := 18, nameIndex := 42, descriptorIndex := 43, attributes := #[] }, { accessFlags := 18, nameIndex := 46, descriptorIndex := 43, attributes := #[] }, { accessFlags := 18, nameIndex := 53, descriptorIndex := 26, attributes := #[] }, { accessFlags := 18, nameIndex := 25, descriptorIndex := 26, attributes := #[] }])
  fields := #[{ name := "words", type := .int, accessFlags := 18, slot := 0, constantValue := 0 }, { name := "heldLow", type := .long, accessFlags := 18, slot := 1, constantValue := 0 }, { name := "heldHigh", type := .long, accessFlags := 18, slot := 2, constantValue := 0 }, { name := "fits", type := (.array .long), accessFlags := 18, slot := 3, constantValue := 0 }, { name := "stars", type := (.array .long), accessFlags := 18, slot := 4, constantValue := 0 }]
  methods := #[k11m0, k11m1]
  instanceTypes := #[.int, .long, .long, (.array .long), (.array .long)]
  staticTypes := #[]
  resolved := Array.replicate 103 none
  statics := none }

def pool12 : Array CpInfo := pool [(2, .class_ 4), (1, u "java/lang/Object"), (0, u "<init>"), (0, u "()V"), (17, .class_ 26), (1, u "jdk/internal/util/Preconditions"), (6, u "checkIndex"), (21, .class_ 56), (0, u "jdk/internal/util/Preconditions$4"), (57, .class_ 115), (0, u "jdk/internal/util/Preconditions$1"), (7, u "SIOOBE_FORMATTER"), (0, u "Ljava/util/function/BiFunction;"), (0, .class_ 126), (0, u "jdk/internal/util/Preconditions$2"), (3, u "AIOOBE_FORMATTER"), (0, .class_ 132), (0, u "jdk/internal/util/Preconditions$3"), (3, u "IOOBE_FORMATTER"), (41, u "(IILjava/util/function/BiFunction;)I")] 15

def k12m0 : Method := { name := "<init>", desc := "()V", sig := { parameters := [], returnType := none }, accessFlags := 1, code := none }
def k12c1 : Code := { maxStack := 3, maxLocals := 3, code := jdk_41_method_11_code, exceptionTable := #[], attributes := #[] }
def k12m1 : Method := { name := "checkIndex", desc := "(IILjava/util/function/BiFunction;)I", sig := { parameters := [.int, .int, (.object "java/util/function/BiFunction")], returnType := some .int }, accessFlags := 9, code := some k12c1 }
/-- jdk/internal/util/Preconditions -/
def k12 : Class := { plain "jdk/internal/util/Preconditions" (some 0) with
  accessFlags := 33
  interfaces := #[]
  cf := some (fileOf pool12 24 #[.nestMembers #[55, 131, 125, 114]] #[{ accessFlags := 1, nameIndex := 5, descriptorIndex := 6, attributes := #[] }, { accessFlags := 9, nameIndex := 33, descriptorIndex := 178, attributes := #[] }] 33 2 #[] #[{ accessFlags := 25, nameIndex := 123, descriptorIndex := 124, attributes := #[] }, { accessFlags := 25, nameIndex := 130, descriptorIndex := 124, attributes := #[] }, { accessFlags := 25, nameIndex := 136, descriptorIndex := 124, attributes := #[] }])
  fields := #[{ name := "SIOOBE_FORMATTER", type := (.object "java/util/function/BiFunction"), accessFlags := 25, slot := 0, constantValue := 0 }, { name := "AIOOBE_FORMATTER", type := (.object "java/util/function/BiFunction"), accessFlags := 25, slot := 1, constantValue := 0 }, { name := "IOOBE_FORMATTER", type := (.object "java/util/function/BiFunction"), accessFlags := 25, slot := 2, constantValue := 0 }]
  methods := #[k12m0, k12m1]
  instanceTypes := #[]
  staticTypes := #[(.object "java/util/function/BiFunction"), (.object "java/util/function/BiFunction"), (.object "java/util/function/BiFunction")]
  resolved := Array.replicate 194 none
  statics := some 1 }

def pool13 : Array CpInfo := pool [(2, .class_ 4), (1, u "java/lang/Object"), (0, u "<init>"), (0, u "()V"), (1, .class_ 10), (1, u "java/lang/Number"), (2, .class_ 14), (0, u "java/io/Serializable"), (0, u "serialVersionUID"), (0, u "J")] 20

def k13m0 : Method := { name := "<init>", desc := "()V", sig := { parameters := [], returnType := none }, accessFlags := 1, code := none }
/-- java/lang/Number -/
def k13 : Class := { plain "java/lang/Number" (some 0) with
  accessFlags := 1057
  interfaces := #[3]
  cf := some (fileOf pool13 8 #[] #[{ accessFlags := 1, nameIndex := 5, descriptorIndex := 6, attributes := #[] }] 1057 2 #[13] #[{ accessFlags := 26, nameIndex := 15, descriptorIndex := 16, attributes := #[] }])
  fields := #[{ name := "serialVersionUID", type := .long, accessFlags := 26, slot := 0, constantValue := 0 }]
  methods := #[k13m0]
  instanceTypes := #[]
  staticTypes := #[.long]
  resolved := Array.replicate 37 none
  statics := none }

def pool14 : Array CpInfo := pool [(1, .class_ 2), (0, u "java/lang/Long"), (98, u "(J)I"), (133, .class_ 237), (1, u "java/lang/Long$LongCache"), (33, .class_ 272), (0, u "java/lang/Number"), (2, u "value"), (0, u "J"), (37, .long 6148914691236517205), (1, .long 3689348814741910323), (1, .long 1085102592571150095), (42, u "TYPE"), (0, u "Ljava/lang/Class;"), (0, .class_ 364), (0, u "java/lang/Comparable"), (0, .class_ 366), (0, u "java/lang/constant/Constable"), (0, .class_ 368), (0, u "java/lang/constant/ConstantDesc"), (0, u "MIN_VALUE"), (1, u "MAX_VALUE"), (4, u "SIZE"), (0, u "I"), (1, u "BYTES"), (1, u "serialVersionUID"), (94, u "bitCount")] 47

def k14c0 : Code := { maxStack := 6, maxLocals := 2, code := jdk_35_method_50_code, exceptionTable := #[], attributes := #[] }
def k14m0 : Method := { name := "bitCount", desc := "(J)I", sig := { parameters := [.long], returnType := some .int }, accessFlags := 9, code := some k14c0 }
/-- java/lang/Long -/
def k14 : Class := { plain "java/lang/Long" (some 13) with
  accessFlags := 49
  interfaces := #[4, 6, 7]
  cf := some (fileOf pool14 1 #[.nestMembers #[235]] #[{ accessFlags := 9, nameIndex := 476, descriptorIndex := 101, attributes := #[] }] 49 271 #[363, 365, 367] #[{ accessFlags := 25, nameIndex := 369, descriptorIndex := 276, attributes := #[] }, { accessFlags := 25, nameIndex := 371, descriptorIndex := 276, attributes := #[] }, { accessFlags := 25, nameIndex := 361, descriptorIndex := 362, attributes := #[] }, { accessFlags := 18, nameIndex := 275, descriptorIndex := 276, attributes := #[] }, { accessFlags := 25, nameIndex := 376, descriptorIndex := 377, attributes := #[] }, { accessFlags := 25, nameIndex := 379, descriptorIndex := 377, attributes := #[] }, { accessFlags := 26, nameIndex := 381, descriptorIndex := 276, attributes := #[] }])
  fields := #[{ name := "MIN_VALUE", type := .long, accessFlags := 25, slot := 0, constantValue := 0 }, { name := "MAX_VALUE", type := .long, accessFlags := 25, slot := 1, constantValue := 0 }, { name := "TYPE", type := (.object "java/lang/Class"), accessFlags := 25, slot := 2, constantValue := 0 }, { name := "value", type := .long, accessFlags := 18, slot := 0, constantValue := 0 }, { name := "SIZE", type := .int, accessFlags := 25, slot := 3, constantValue := 0 }, { name := "BYTES", type := .int, accessFlags := 25, slot := 4, constantValue := 0 }, { name := "serialVersionUID", type := .long, accessFlags := 26, slot := 5, constantValue := 0 }]
  methods := #[k14m0]
  instanceTypes := #[.long]
  staticTypes := #[.long, .long, (.object "java/lang/Class"), .int, .int, .long]
  resolved := Array.replicate 524 none
  statics := none }

def pool15 : Array CpInfo := pool [(2, .class_ 4), (1, u "java/lang/Object"), (0, u "<init>"), (0, u "()V"), (1, .class_ 10), (1, u "java/lang/System"), (0, u "allowSecurityManager"), (0, u "I"), (16, u "cons"), (0, u "Ljava/io/Console;"), (77, .class_ 110), (1, u "java/lang/System$CallersHolder"), (43, u "initialErrStream"), (0, u "Ljava/io/PrintStream;"), (19, u "security"), (0, u "Ljava/lang/SecurityManager;"), (31, .class_ 209), (0, u "java/lang/System$1"), (7, u "props"), (0, u "Ljava/util/Properties;"), (2, u "lineSeparator"), (0, u "Ljava/lang/String;"), (96, .class_ 321), (1, u "java/lang/System$LoggerFinder"), (5, .class_ 328), (0, u "java/lang/System$Logger"), (67, u "err"), (2, u "out"), (91, u "notSupportedJnuEncoding"), (15, u "in"), (17, u "initialIn"), (0, u "Ljava/io/InputStream;"), (35, u "bootLayer"), (0, u "Ljava/lang/ModuleLayer;"), (99, .class_ 664), (0, u "java/lang/System$2"), (9, u "NEVER"), (2, u "MAYBE"), (49, u "arraycopy"), (0, u "(Ljava/lang/Object;ILjava/lang/Object;II)V"), (72, .class_ 802), (0, u "java/lang/System$Logger$Level")] 31

def k15m0 : Method := { name := "<init>", desc := "()V", sig := { parameters := [], returnType := none }, accessFlags := 2, code := none }
def k15m1 : Method := { name := "arraycopy", desc := "(Ljava/lang/Object;ILjava/lang/Object;II)V", sig := { parameters := [(.object "java/lang/Object"), .int, (.object "java/lang/Object"), .int, .int], returnType := none }, accessFlags := 265, code := none }
/-- java/lang/System -/
def k15 : Class := { plain "java/lang/System" (some 0) with
  accessFlags := 49
  interfaces := #[]
  cf := some (fileOf pool15 8 #[.nestMembers #[319, 327, 801, 108, 663, 208]] #[{ accessFlags := 2, nameIndex := 5, descriptorIndex := 6, attributes := #[] }, { accessFlags := 265, nameIndex := 727, descriptorIndex := 728, attributes := #[] }] 49 2 #[] #[{ accessFlags := 25, nameIndex := 507, descriptorIndex := 526, attributes := #[] }, { accessFlags := 25, nameIndex := 399, descriptorIndex := 155, attributes := #[] }, { accessFlags := 25, nameIndex := 396, descriptorIndex := 155, attributes := #[] }, { accessFlags := 10, nameIndex := 525, descriptorIndex := 526, attributes := #[] }, { accessFlags := 26, nameIndex := 674, descriptorIndex := 12, attributes := #[] }, { accessFlags := 26, nameIndex := 677, descriptorIndex := 12, attributes := #[] }, { accessFlags := 10, nameIndex := 11, descriptorIndex := 12, attributes := #[] }, { accessFlags := 74, nameIndex := 175, descriptorIndex := 176, attributes := #[] }, { accessFlags := 10, nameIndex := 491, descriptorIndex := 222, attributes := #[] }, { accessFlags := 74, nameIndex := 29, descriptorIndex := 30, attributes := #[] }, { accessFlags := 74, nameIndex := 154, descriptorIndex := 155, attributes := #[] }, { accessFlags := 10, nameIndex := 217, descriptorIndex := 218, attributes := #[] }, { accessFlags := 10, nameIndex := 221, descriptorIndex := 222, attributes := #[] }, { accessFlags := 8, nameIndex := 562, descriptorIndex := 563, attributes := #[] }])
  fields := #[{ name := "in", type := (.object "java/io/InputStream"), accessFlags := 25, slot := 0, constantValue := 0 }, { name := "out", type := (.object "java/io/PrintStream"), accessFlags := 25, slot := 1, constantValue := 0 }, { name := "err", type := (.object "java/io/PrintStream"), accessFlags := 25, slot := 2, constantValue := 0 }, { name := "initialIn", type := (.object "java/io/InputStream"), accessFlags := 10, slot := 3, constantValue := 0 }, { name := "NEVER", type := .int, accessFlags := 26, slot := 4, constantValue := 0 }, { name := "MAYBE", type := .int, accessFlags := 26, slot := 5, constantValue := 0 }, { name := "allowSecurityManager", type := .int, accessFlags := 10, slot := 6, constantValue := 0 }, { name := "security", type := (.object "java/lang/SecurityManager"), accessFlags := 74, slot := 7, constantValue := 0 }, { name := "notSupportedJnuEncoding", type := (.object "java/lang/String"), accessFlags := 10, slot := 8, constantValue := 0 }, { name := "cons", type := (.object "java/io/Console"), accessFlags := 74, slot := 9, constantValue := 0 }, { name := "initialErrStream", type := (.object "java/io/PrintStream"), accessFlags := 74, slot := 10, constantValue := 0 }, { name := "props", type := (.object "java/util/Properties"), accessFlags := 10, slot := 11, constantValue := 0 }, { name := "lineSeparator", type := (.object "java/lang/String"), accessFlags := 10, slot := 12, constantValue := 0 }, { name := "bootLayer", type := (.object "java/lang/ModuleLayer"), accessFlags := 8, slot := 13, constantValue := 0 }]
  methods := #[k15m0, k15m1]
  instanceTypes := #[]
  staticTypes := #[(.object "java/io/InputStream"), (.object "java/io/PrintStream"), (.object "java/io/PrintStream"), (.object "java/io/InputStream"), .int, .int, .int, (.object "java/lang/SecurityManager"), (.object "java/lang/String"), (.object "java/io/Console"), (.object "java/io/PrintStream"), (.object "java/util/Properties"), (.object "java/lang/String"), (.object "java/lang/ModuleLayer")]
  resolved := Array.replicate 834 none
  statics := none }

def pool16 : Array CpInfo := pool [(9, u "<init>"), (6, .class_ 18), (1, u "java/lang/Object"), (0, u "()V"), (1, .class_ 23), (1, u "jdk/internal/util/ArraysSupport"), (0, u "LOG2_ARRAY_LONG_INDEX_SCALE"), (0, u "I"), (2, u "U"), (0, u "Ljdk/internal/misc/Unsafe;"), (8, u "BIG_ENDIAN"), (0, u "Z"), (8, u "LOG2_BYTE_BIT_SIZE"), (4, u "LOG2_ARRAY_INT_INDEX_SCALE"), (54, u "JLA"), (0, u "Ljdk/internal/access/JavaLangAccess;"), (11, u "LOG2_ARRAY_BOOLEAN_INDEX_SCALE"), (9, u "LOG2_ARRAY_BYTE_INDEX_SCALE"), (5, u "LOG2_ARRAY_CHAR_INDEX_SCALE"), (5, u "LOG2_ARRAY_SHORT_INDEX_SCALE"), (18, u "LOG2_ARRAY_FLOAT_INDEX_SCALE"), (24, u "LOG2_ARRAY_DOUBLE_INDEX_SCALE"), (89, u "T_BOOLEAN"), (2, u "T_CHAR"), (1, u "T_FLOAT"), (1, u "T_DOUBLE"), (1, u "T_BYTE"), (1, u "T_SHORT"), (1, u "T_INT"), (1, u "T_LONG"), (1, u "SOFT_MAX_ARRAY_LENGTH")] 83

def k16m0 : Method := { name := "<init>", desc := "()V", sig := { parameters := [], returnType := none }, accessFlags := 2, code := none }
/-- jdk/internal/util/ArraysSupport -/
def k16 : Class := { plain "jdk/internal/util/ArraysSupport" (some 0) with
  accessFlags := 33
  interfaces := #[]
  cf := some (fileOf pool16 21 #[] #[{ accessFlags := 2, nameIndex := 9, descriptorIndex := 19, attributes := #[] }] 33 16 #[] #[{ accessFlags := 24, nameIndex := 28, descriptorIndex := 29, attributes := #[] }, { accessFlags := 26, nameIndex := 38, descriptorIndex := 39, attributes := #[] }, { accessFlags := 25, nameIndex := 121, descriptorIndex := 25, attributes := #[] }, { accessFlags := 25, nameIndex := 131, descriptorIndex := 25, attributes := #[] }, { accessFlags := 25, nameIndex := 137, descriptorIndex := 25, attributes := #[] }, { accessFlags := 25, nameIndex := 143, descriptorIndex := 25, attributes := #[] }, { accessFlags := 25, nameIndex := 53, descriptorIndex := 25, attributes := #[] }, { accessFlags := 25, nameIndex := 24, descriptorIndex := 25, attributes := #[] }, { accessFlags := 25, nameIndex := 162, descriptorIndex := 25, attributes := #[] }, { accessFlags := 25, nameIndex := 187, descriptorIndex := 25, attributes := #[] }, { accessFlags := 26, nameIndex := 48, descriptorIndex := 25, attributes := #[] }, { accessFlags := 25, nameIndex := 277, descriptorIndex := 25, attributes := #[] }, { accessFlags := 25, nameIndex := 280, descriptorIndex := 25, attributes := #[] }, { accessFlags := 25, nameIndex := 282, descriptorIndex := 25, attributes := #[] }, { accessFlags := 25, nameIndex := 284, descriptorIndex := 25, attributes := #[] }, { accessFlags := 25, nameIndex := 286, descriptorIndex := 25, attributes := #[] }, { accessFlags := 25, nameIndex := 288, descriptorIndex := 25, attributes := #[] }, { accessFlags := 25, nameIndex := 290, descriptorIndex := 25, attributes := #[] }, { accessFlags := 25, nameIndex := 292, descriptorIndex := 25, attributes := #[] }, { accessFlags := 26, nameIndex := 108, descriptorIndex := 109, attributes := #[] }, { accessFlags := 25, nameIndex := 294, descriptorIndex := 25, attributes := #[] }])
  fields := #[{ name := "U", type := (.object "jdk/internal/misc/Unsafe"), accessFlags := 24, slot := 0, constantValue := 0 }, { name := "BIG_ENDIAN", type := .boolean, accessFlags := 26, slot := 1, constantValue := 0 }, { name := "LOG2_ARRAY_BOOLEAN_INDEX_SCALE", type := .int, accessFlags := 25, slot := 2, constantValue := 0 }, { name := "LOG2_ARRAY_BYTE_INDEX_SCALE", type := .int, accessFlags := 25, slot := 3, constantValue := 0 }, { name := "LOG2_ARRAY_CHAR_INDEX_SCALE", type := .int, accessFlags := 25, slot := 4, constantValue := 0 }, { name := "LOG2_ARRAY_SHORT_INDEX_SCALE", type := .int, accessFlags := 25, slot := 5, constantValue := 0 }, { name := "LOG2_ARRAY_INT_INDEX_SCALE", type := .int, accessFlags := 25, slot := 6, constantValue := 0 }, { name := "LOG2_ARRAY_LONG_INDEX_SCALE", type := .int, accessFlags := 25, slot := 7, constantValue := 0 }, { name := "LOG2_ARRAY_FLOAT_INDEX_SCALE", type := .int, accessFlags := 25, slot := 8, constantValue := 0 }, { name := "LOG2_ARRAY_DOUBLE_INDEX_SCALE", type := .int, accessFlags := 25, slot := 9, constantValue := 0 }, { name := "LOG2_BYTE_BIT_SIZE", type := .int, accessFlags := 26, slot := 10, constantValue := 0 }, { name := "T_BOOLEAN", type := .int, accessFlags := 25, slot := 11, constantValue := 0 }, { name := "T_CHAR", type := .int, accessFlags := 25, slot := 12, constantValue := 0 }, { name := "T_FLOAT", type := .int, accessFlags := 25, slot := 13, constantValue := 0 }, { name := "T_DOUBLE", type := .int, accessFlags := 25, slot := 14, constantValue := 0 }, { name := "T_BYTE", type := .int, accessFlags := 25, slot := 15, constantValue := 0 }, { name := "T_SHORT", type := .int, accessFlags := 25, slot := 16, constantValue := 0 }, { name := "T_INT", type := .int, accessFlags := 25, slot := 17, constantValue := 0 }, { name := "T_LONG", type := .int, accessFlags := 25, slot := 18, constantValue := 0 }, { name := "JLA", type := (.object "jdk/internal/access/JavaLangAccess"), accessFlags := 26, slot := 19, constantValue := 0 }, { name := "SOFT_MAX_ARRAY_LENGTH", type := .int, accessFlags := 25, slot := 20, constantValue := 0 }]
  methods := #[k16m0]
  instanceTypes := #[]
  staticTypes := #[(.object "jdk/internal/misc/Unsafe"), .boolean, .int, .int, .int, .int, .int, .int, .int, .int, .int, .int, .int, .int, .int, .int, .int, .int, .int, (.object "jdk/internal/access/JavaLangAccess"), .int]
  resolved := Array.replicate 378 none
  statics := none }

def pool17 : Array CpInfo := pool [(1, u "java/lang/Cloneable"), (0, .class_ 1), (0, u "java/lang/Object"), (0, .class_ 3)] 3

/-- java/lang/Cloneable -/
def k17 : Class := { plain "java/lang/Cloneable" (some 0) with
  accessFlags := 1537
  interfaces := #[]
  cf := some (fileOf pool17 2 #[] #[] 1537 4 #[] #[])
  fields := #[]
  methods := #[]
  instanceTypes := #[]
  staticTypes := #[]
  resolved := Array.replicate 8 none
  statics := none }

/-- the primitive byte -/
def k18 : Class := { plain "byte" none with kind := .primitive 'B', accessFlags := 0x411 }
/-- [B -/
def k19 : Class := { plain "[B" (some 0) with kind := .array 18 .byte, interfaces := #[17, 3], accessFlags := 1041 }

/-- the primitive int -/
def k20 : Class := { plain "int" none with kind := .primitive 'I', accessFlags := 0x411 }
/-- [I -/
def k21 : Class := { plain "[I" (some 0) with kind := .array 20 .int, interfaces := #[17, 3], accessFlags := 1041 }

/-- the primitive long -/
def k22 : Class := { plain "long" none with kind := .primitive 'J', accessFlags := 0x411 }
/-- [J -/
def k23 : Class := { plain "[J" (some 0) with kind := .array 22 .long, interfaces := #[17, 3], accessFlags := 1041 }

def heap : Heap := #[{ cls := 8, slots := #[.long 0, .int 1, .null, .int 0, .null, .int 0, .int 0], vm := .statics 8 },
  { cls := 12, slots := #[.null, .null, .null], vm := .statics 12 }]
def classes : Array Class := #[k0, k1, k2, k3, k4, k5, k6, k7, k8, k9, k10, k11, k12, k13, k14, k15, k16, k17, k18, k19, k20, k21, k22, k23]
def interned : List (Array UInt16 × Addr) := []
def slotsUsed : Nat := 10
def theMethod : MethodId := ⟨1, 1⟩
def args0 : Array Value := #[.int 42, .int 7, .int 1]
def aboutOver (below : List Frame) : State where
  vm := { classes := classes, interned := interned.toArray }
  heap := heap
  slotsUsed := slotsUsed
  threads := #[{ frames := .invoking theMethod args0 :: below }]
def below0 : List Frame := [.native { method := ⟨0, 0⟩, args := #[] }]
def about1 : State := aboutOver below0
def p0 : Program := .bare "" "" ""
def e0 : Env := launch0.env 0 0 0
theorem w_frames : about1.frames = Frame.invoking theMethod args0 :: below0 := rfl
set_option maxRecDepth 65536 in
theorem w_args : argsFit about1.vm theMethod args0 = true := by decide +kernel
set_option maxRecDepth 65536 in
theorem w_heap : heapFits about1 = true := by decide +kernel
set_option maxRecDepth 65536 in
theorem w_runnable : about1.curStatus? = some .runnable := by decide +kernel
set_option maxRecDepth 65536 in
theorem w_alone : about1.alone = true := by decide +kernel
set_option maxRecDepth 65536 in
theorem w_named : about1.methodNamed? x = some theMethod := by decide +kernel
set_option maxRecDepth 65536 in
theorem w_hears : about1.hears theMethod below0 = true := by decide +kernel
set_option maxRecDepth 65536 in
theorem w_ripe : about1.ripe theMethod args0 below0 = true := by decide +kernel
theorem w_running : about1.status = .running := rfl
set_option maxRecDepth 65536 in
theorem w_room : about1.hasRoom e0.platform room_1 = true :=
  launch0.hasRoom_least _ room_1 (by decide +kernel) (by decide +kernel) (by decide +kernel) (by decide +kernel) (by decide +kernel) (by decide +kernel)
theorem allAtoms_all (ts : List Jvm.Cond) (a : Array Jvm.Value) (st : Jvm.State) : (allAtoms ts).before a st = ts.all (fun c => c.before a st) := by
  induction ts with
  | nil => rfl
  | cons c t ih =>
    show (Jvm.Cond.and c (allAtoms t)).before a st = _
    rw [Jvm.Cond.before_and, ih, List.all_cons]
def words1 : List Jvm.Cond := Jvm.Cond.code x code maxLocals ret :: tables_1
/-- a 'code' word, met by the world's own term for the bytes: nothing is compared byte by byte -/
theorem code_word {y : MethodName} {bytes : ByteArray} {mx : Nat} {rt : Option FieldType} {a : Array Value} {s : State} {m : MethodId} {meth : Method} {c : Code} (h1 : s.methodNamed? y = some m) (h2 : s.vm.method? m = some meth) (h3 : meth.code = some c) (h4 : c.code = bytes)
    (h5 : (c.maxLocals == mx && c.exceptionTable.isEmpty && decide (c.maxStack ≤ mostOperands) && decide (meth.sig.returnType = rt) && !meth.locks && decide (parseMethodDescriptor y.desc = some meth.sig)) = true) : (Jvm.Cond.code y bytes mx rt).before a s = true := by
  simp only [Bool.and_eq_true, beq_iff_eq, Bool.not_eq_true', decide_eq_true_eq] at h5
  obtain ⟨⟨⟨⟨⟨g1, g2⟩, g3⟩, g4⟩, g5⟩, g6⟩ := h5
  simp [Cond.before, Cond.holds, Cond.value, h1, h2, h3, h4, g1, g2, g3, g4, g5, g6]
def isCode : Jvm.Cond → Bool
  | .code _ _ _ _ => true
  | _ => false
theorem all_split {L : List Jvm.Cond} {P : Jvm.Cond → Bool} (h1 : L.all (fun c => isCode c || P c) = true) (h2 : ∀ c ∈ L.filter isCode, P c = true) : L.all P = true := by
  refine List.all_eq_true.mpr fun c hc => ?_
  have h := List.all_eq_true.mp h1 c hc
  rcases Bool.eq_false_or_eq_true (isCode c) with hi | hi
  · exact h2 c (List.mem_filter.mpr ⟨hc, hi⟩)
  · simpa [hi] using h
set_option maxRecDepth 65536 in
theorem w_c0 : (Jvm.Cond.code x code maxLocals ret).before args0 about1 = true := code_word (m := ⟨1, 1⟩) (meth := k1m1) (c := k1c1) (by decide +kernel) rfl rfl rfl (by decide +kernel)
set_option maxRecDepth 65536 in
theorem w_c1 : (Jvm.Cond.code ({ cls := "com/example/subject/subject/model/Wildcards", name := "isWildcard", desc := "(I)Z" } : Jvm.MethodName) prog_51_method_3_code (1 : Nat) (Option.some Jvm.ClassFile.FieldType.boolean)).before args0 about1 = true := code_word (m := ⟨2, 2⟩) (meth := k2m2) (c := k2c2) (by decide +kernel) rfl rfl rfl (by decide +kernel)
set_option maxRecDepth 65536 in
theorem w_c2 : (Jvm.Cond.code ({ cls := "java/lang/String", name := "valueOf", desc := "(C)Ljava/lang/String;" } : Jvm.MethodName) jdk_42_method_139_code (1 : Nat) (Option.some (Jvm.ClassFile.FieldType.object "java/lang/String"))).before args0 about1 = true := code_word (m := ⟨8, 10⟩) (meth := k8m10) (c := k8c10) (by decide +kernel) rfl rfl rfl (by decide +kernel)
set_option maxRecDepth 65536 in
theorem w_c3 : (Jvm.Cond.code ({ cls := "java/lang/StringLatin1", name := "canEncode", desc := "(C)Z" } : Jvm.MethodName) jdk_43_method_3_code (1 : Nat) (Option.some Jvm.ClassFile.FieldType.boolean)).before args0 about1 = true := code_word (m := ⟨9, 2⟩) (meth := k9m2) (c := k9c2) (by decide +kernel) rfl rfl rfl (by decide +kernel)
set_option maxRecDepth 65536 in
theorem w_c4 : (Jvm.Cond.code ({ cls := "java/lang/StringLatin1", name := "toBytes", desc := "(C)[B" } : Jvm.MethodName) jdk_43_method_46_code (1 : Nat) (Option.some (Jvm.ClassFile.FieldType.array Jvm.ClassFile.FieldType.byte))).before args0 about1 = true := code_word (m := ⟨9, 9⟩) (meth := k9m9) (c := k9c9) (by decide +kernel) rfl rfl rfl (by decide +kernel)
set_option maxRecDepth 65536 in
theorem w_c5 : (Jvm.Cond.code ({ cls := "java/lang/String", name := "<init>", desc := "([BB)V" } : Jvm.MethodName) jdk_42_method_151_code (3 : Nat) (Option.none : Option Jvm.ClassFile.FieldType)).before args0 about1 = true := code_word (m := ⟨8, 11⟩) (meth := k8m11) (c := k8c11) (by decide +kernel) rfl rfl rfl (by decide +kernel)
set_option maxRecDepth 65536 in
theorem w_c6 : (Jvm.Cond.code ({ cls := "java/lang/Object", name := "<init>", desc := "()V" } : Jvm.MethodName) object_method_1_code (1 : Nat) (Option.none : Option Jvm.ClassFile.FieldType)).before args0 about1 = true := code_word (m := ⟨0, 0⟩) (meth := k0m0) (c := k0c0) (by decide +kernel) rfl rfl rfl (by decide +kernel)
set_option maxRecDepth 65536 in
theorem w_c7 : (Jvm.Cond.code ({ cls := "com/example/subject/subject/model/Wildcards", name := "matches", desc := "(Ljava/lang/String;Ljava/lang/String;)Z" } : Jvm.MethodName) prog_51_method_5_code (2 : Nat) (Option.some Jvm.ClassFile.FieldType.boolean)).before args0 about1 = true := code_word (m := ⟨2, 3⟩) (meth := k2m3) (c := k2c3) (by decide +kernel) rfl rfl rfl (by decide +kernel)
set_option maxRecDepth 65536 in
theorem w_c8 : (Jvm.Cond.code ({ cls := "com/example/subject/subject/model/Wildcards", name := "compile", desc := "(Ljava/lang/String;)Lcom/example/subject/subject/model/Wildcards;" } : Jvm.MethodName) prog_51_method_2_code (5 : Nat) (Option.some (Jvm.ClassFile.FieldType.object "com/example/subject/subject/model/Wildcards"))).before args0 about1 = true := code_word (m := ⟨2, 1⟩) (meth := k2m1) (c := k2c1) (by decide +kernel) rfl rfl rfl (by decide +kernel)
set_option maxRecDepth 65536 in
theorem w_c9 : (Jvm.Cond.code ({ cls := "java/lang/String", name := "contains", desc := "(Ljava/lang/CharSequence;)Z" } : Jvm.MethodName) jdk_42_method_97_code (2 : Nat) (Option.some Jvm.ClassFile.FieldType.boolean)).before args0 about1 = true := code_word (m := ⟨8, 8⟩) (meth := k8m8) (c := k8c8) (by decide +kernel) rfl rfl rfl (by decide +kernel)
set_option maxRecDepth 65536 in
theorem w_c10 : (Jvm.Cond.code ({ cls := "java/lang/String", name := "toString", desc := "()Ljava/lang/String;" } : Jvm.MethodName) jdk_42_method_126_code (1 : Nat) (Option.some (Jvm.ClassFile.FieldType.object "java/lang/String"))).before args0 about1 = true := code_word (m := ⟨8, 9⟩) (meth := k8m9) (c := k8c9) (by decide +kernel) rfl rfl rfl (by decide +kernel)
set_option maxRecDepth 65536 in
theorem w_c11 : (Jvm.Cond.code ({ cls := "java/lang/String", name := "indexOf", desc := "(Ljava/lang/String;)I" } : Jvm.MethodName) jdk_42_method_84_code (3 : Nat) (Option.some Jvm.ClassFile.FieldType.int)).before args0 about1 = true := code_word (m := ⟨8, 7⟩) (meth := k8m7) (c := k8c7) (by decide +kernel) rfl rfl rfl (by decide +kernel)
set_option maxRecDepth 65536 in
theorem w_c12 : (Jvm.Cond.code ({ cls := "java/lang/String", name := "coder", desc := "()B" } : Jvm.MethodName) jdk_42_method_152_code (1 : Nat) (Option.some Jvm.ClassFile.FieldType.byte)).before args0 about1 = true := code_word (m := ⟨8, 12⟩) (meth := k8m12) (c := k8c12) (by decide +kernel) rfl rfl rfl (by decide +kernel)
set_option maxRecDepth 65536 in
theorem w_c13 : (Jvm.Cond.code ({ cls := "java/lang/String", name := "isLatin1", desc := "()Z" } : Jvm.MethodName) jdk_42_method_154_code (1 : Nat) (Option.some Jvm.ClassFile.FieldType.boolean)).before args0 about1 = true := code_word (m := ⟨8, 13⟩) (meth := k8m13) (c := k8c13) (by decide +kernel) rfl rfl rfl (by decide +kernel)
set_option maxRecDepth 65536 in
theorem w_c14 : (Jvm.Cond.code ({ cls := "java/lang/StringLatin1", name := "indexOf", desc := "([B[B)I" } : Jvm.MethodName) jdk_43_method_24_code (2 : Nat) (Option.some Jvm.ClassFile.FieldType.int)).before args0 about1 = true := code_word (m := ⟨9, 6⟩) (meth := k9m6) (c := k9c6) (by decide +kernel) rfl rfl rfl (by decide +kernel)
set_option maxRecDepth 65536 in
theorem w_c15 : (Jvm.Cond.code ({ cls := "java/lang/StringLatin1", name := "indexOf", desc := "([BI[BII)I" } : Jvm.MethodName) jdk_43_method_25_code (11 : Nat) (Option.some Jvm.ClassFile.FieldType.int)).before args0 about1 = true := code_word (m := ⟨9, 7⟩) (meth := k9m7) (c := k9c7) (by decide +kernel) rfl rfl rfl (by decide +kernel)
set_option maxRecDepth 65536 in
theorem w_c16 : (Jvm.Cond.code ({ cls := "com/example/subject/subject/model/Wildcards", name := "<init>", desc := "(Ljava/lang/String;)V" } : Jvm.MethodName) prog_51_method_1_code (2 : Nat) (Option.none : Option Jvm.ClassFile.FieldType)).before args0 about1 = true := code_word (m := ⟨2, 0⟩) (meth := k2m0) (c := k2c0) (by decide +kernel) rfl rfl rfl (by decide +kernel)
set_option maxRecDepth 65536 in
theorem w_c17 : (Jvm.Cond.code ({ cls := "java/lang/String", name := "indexOf", desc := "(I)I" } : Jvm.MethodName) jdk_42_method_79_code (2 : Nat) (Option.some Jvm.ClassFile.FieldType.int)).before args0 about1 = true := code_word (m := ⟨8, 3⟩) (meth := k8m3) (c := k8c3) (by decide +kernel) rfl rfl rfl (by decide +kernel)
set_option maxRecDepth 65536 in
theorem w_c18 : (Jvm.Cond.code ({ cls := "java/lang/String", name := "indexOf", desc := "(II)I" } : Jvm.MethodName) jdk_42_method_80_code (3 : Nat) (Option.some Jvm.ClassFile.FieldType.int)).before args0 about1 = true := code_word (m := ⟨8, 4⟩) (meth := k8m4) (c := k8c4) (by decide +kernel) rfl rfl rfl (by decide +kernel)
set_option maxRecDepth 65536 in
theorem w_c19 : (Jvm.Cond.code ({ cls := "java/lang/String", name := "length", desc := "()I" } : Jvm.MethodName) jdk_42_method_54_code (1 : Nat) (Option.some Jvm.ClassFile.FieldType.int)).before args0 about1 = true := code_word (m := ⟨8, 1⟩) (meth := k8m1) (c := k8c1) (by decide +kernel) rfl rfl rfl (by decide +kernel)
set_option maxRecDepth 65536 in
theorem w_c20 : (Jvm.Cond.code ({ cls := "java/lang/StringLatin1", name := "indexOf", desc := "([BIII)I" } : Jvm.MethodName) jdk_43_method_22_code (4 : Nat) (Option.some Jvm.ClassFile.FieldType.int)).before args0 about1 = true := code_word (m := ⟨9, 4⟩) (meth := k9m4) (c := k9c4) (by decide +kernel) rfl rfl rfl (by decide +kernel)
set_option maxRecDepth 65536 in
theorem w_c21 : (Jvm.Cond.code ({ cls := "java/lang/StringLatin1", name := "canEncode", desc := "(I)Z" } : Jvm.MethodName) jdk_43_method_4_code (1 : Nat) (Option.some Jvm.ClassFile.FieldType.boolean)).before args0 about1 = true := code_word (m := ⟨9, 3⟩) (meth := k9m3) (c := k9c3) (by decide +kernel) rfl rfl rfl (by decide +kernel)
set_option maxRecDepth 65536 in
theorem w_c22 : (Jvm.Cond.code ({ cls := "java/lang/Math", name := "max", desc := "(II)I" } : Jvm.MethodName) jdk_29_method_65_code (2 : Nat) (Option.some Jvm.ClassFile.FieldType.int)).before args0 about1 = true := code_word (m := ⟨10, 1⟩) (meth := k10m1) (c := k10c1) (by decide +kernel) rfl rfl rfl (by decide +kernel)
set_option maxRecDepth 65536 in
theorem w_c23 : (Jvm.Cond.code ({ cls := "java/lang/Math", name := "min", desc := "(II)I" } : Jvm.MethodName) jdk_29_method_69_code (2 : Nat) (Option.some Jvm.ClassFile.FieldType.int)).before args0 about1 = true := code_word (m := ⟨10, 2⟩) (meth := k10m2) (c := k10c2) (by decide +kernel) rfl rfl rfl (by decide +kernel)
set_option maxRecDepth 65536 in
theorem w_c24 : (Jvm.Cond.code ({ cls := "java/lang/StringLatin1", name := "indexOfChar", desc := "([BIII)I" } : Jvm.MethodName) jdk_43_method_23_code (6 : Nat) (Option.some Jvm.ClassFile.FieldType.int)).before args0 about1 = true := code_word (m := ⟨9, 5⟩) (meth := k9m5) (c := k9c5) (by decide +kernel) rfl rfl rfl (by decide +kernel)
set_option maxRecDepth 65536 in
theorem w_c25 : (Jvm.Cond.code ({ cls := "java/lang/String", name := "lastIndexOf", desc := "(I)I" } : Jvm.MethodName) jdk_42_method_82_code (2 : Nat) (Option.some Jvm.ClassFile.FieldType.int)).before args0 about1 = true := code_word (m := ⟨8, 5⟩) (meth := k8m5) (c := k8c5) (by decide +kernel) rfl rfl rfl (by decide +kernel)
set_option maxRecDepth 65536 in
theorem w_c26 : (Jvm.Cond.code ({ cls := "java/lang/String", name := "lastIndexOf", desc := "(II)I" } : Jvm.MethodName) jdk_42_method_83_code (3 : Nat) (Option.some Jvm.ClassFile.FieldType.int)).before args0 about1 = true := code_word (m := ⟨8, 6⟩) (meth := k8m6) (c := k8c6) (by decide +kernel) rfl rfl rfl (by decide +kernel)
set_option maxRecDepth 65536 in
theorem w_c27 : (Jvm.Cond.code ({ cls := "java/lang/StringLatin1", name := "lastIndexOf", desc := "([BII)I" } : Jvm.MethodName) jdk_43_method_27_code (4 : Nat) (Option.some Jvm.ClassFile.FieldType.int)).before args0 about1 = true := code_word (m := ⟨9, 8⟩) (meth := k9m8) (c := k9c8) (by decide +kernel) rfl rfl rfl (by decide +kernel)
set_option maxRecDepth 65536 in
theorem w_c28 : (Jvm.Cond.code ({ cls := "com/example/subject/subject/model/Wildcards$Places", name := "<init>", desc := "(Ljava/lang/String;)V" } : Jvm.MethodName) prog_52_method_1_code (10 : Nat) (Option.none : Option Jvm.ClassFile.FieldType)).before args0 about1 = true := code_word (m := ⟨11, 0⟩) (meth := k11m0) (c := k11c0) (by decide +kernel) rfl rfl rfl (by decide +kernel)
set_option maxRecDepth 65536 in
theorem w_c29 : (Jvm.Cond.code ({ cls := "java/lang/String", name := "charAt", desc := "(I)C" } : Jvm.MethodName) jdk_42_method_56_code (2 : Nat) (Option.some Jvm.ClassFile.FieldType.char)).before args0 about1 = true := code_word (m := ⟨8, 2⟩) (meth := k8m2) (c := k8c2) (by decide +kernel) rfl rfl rfl (by decide +kernel)
set_option maxRecDepth 65536 in
theorem w_c30 : (Jvm.Cond.code ({ cls := "java/lang/StringLatin1", name := "charAt", desc := "([BI)C" } : Jvm.MethodName) jdk_43_method_2_code (2 : Nat) (Option.some Jvm.ClassFile.FieldType.char)).before args0 about1 = true := code_word (m := ⟨9, 1⟩) (meth := k9m1) (c := k9c1) (by decide +kernel) rfl rfl rfl (by decide +kernel)
set_option maxRecDepth 65536 in
theorem w_c31 : (Jvm.Cond.code ({ cls := "java/lang/String", name := "checkIndex", desc := "(II)V" } : Jvm.MethodName) jdk_42_method_155_code (2 : Nat) (Option.none : Option Jvm.ClassFile.FieldType)).before args0 about1 = true := code_word (m := ⟨8, 14⟩) (meth := k8m14) (c := k8c14) (by decide +kernel) rfl rfl rfl (by decide +kernel)
set_option maxRecDepth 65536 in
theorem w_c32 : (Jvm.Cond.code ({ cls := "jdk/internal/util/Preconditions", name := "checkIndex", desc := "(IILjava/util/function/BiFunction;)I" } : Jvm.MethodName) jdk_41_method_11_code (3 : Nat) (Option.some Jvm.ClassFile.FieldType.int)).before args0 about1 = true := code_word (m := ⟨12, 1⟩) (meth := k12m1) (c := k12c1) (by decide +kernel) rfl rfl rfl (by decide +kernel)
set_option maxRecDepth 65536 in
theorem w_c33 : (Jvm.Cond.code ({ cls := "java/lang/Long", name := "bitCount", desc := "(J)I" } : Jvm.MethodName) jdk_35_method_50_code (2 : Nat) (Option.some Jvm.ClassFile.FieldType.int)).before args0 about1 = true := code_word (m := ⟨14, 0⟩) (meth := k14m0) (c := k14c0) (by decide +kernel) rfl rfl rfl (by decide +kernel)
set_option maxRecDepth 65536 in
theorem w_c34 : (Jvm.Cond.code ({ cls := "com/example/subject/subject/model/Wildcards$Places", name := "slot", desc := "(C)I" } : Jvm.MethodName) prog_52_method_6_code (4 : Nat) (Option.some Jvm.ClassFile.FieldType.int)).before args0 about1 = true := code_word (m := ⟨11, 1⟩) (meth := k11m1) (c := k11c1) (by decide +kernel) rfl rfl rfl (by decide +kernel)
set_option maxRecDepth 65536 in
theorem w_c35 : (Jvm.Cond.code ({ cls := "com/example/subject/subject/model/Wildcards", name := "matches", desc := "(Ljava/lang/String;)Z" } : Jvm.MethodName) prog_51_method_7_code (6 : Nat) (Option.some Jvm.ClassFile.FieldType.boolean)).before args0 about1 = true := code_word (m := ⟨2, 4⟩) (meth := k2m4) (c := k2c4) (by decide +kernel) rfl rfl rfl (by decide +kernel)
set_option maxRecDepth 65536 in
theorem w_c36 : (Jvm.Cond.code ({ cls := "com/example/subject/subject/model/Wildcards", name := "fitsAt", desc := "(IILjava/lang/String;I)Z" } : Jvm.MethodName) prog_51_method_12_code (7 : Nat) (Option.some Jvm.ClassFile.FieldType.boolean)).before args0 about1 = true := code_word (m := ⟨2, 5⟩) (meth := k2m5) (c := k2c5) (by decide +kernel) rfl rfl rfl (by decide +kernel)
def codes1 : List Jvm.Cond := [Jvm.Cond.code x code maxLocals ret, Jvm.Cond.code ({ cls := "com/example/subject/subject/model/Wildcards", name := "isWildcard", desc := "(I)Z" } : Jvm.MethodName) prog_51_method_3_code (1 : Nat) (Option.some Jvm.ClassFile.FieldType.boolean), Jvm.Cond.code ({ cls := "java/lang/String", name := "valueOf", desc := "(C)Ljava/lang/String;" } : Jvm.MethodName) jdk_42_method_139_code (1 : Nat) (Option.some (Jvm.ClassFile.FieldType.object "java/lang/String")), Jvm.Cond.code ({ cls := "java/lang/StringLatin1", name := "canEncode", desc := "(C)Z" } : Jvm.MethodName) jdk_43_method_3_code (1 : Nat) (Option.some Jvm.ClassFile.FieldType.boolean), Jvm.Cond.code ({ cls := "java/lang/StringLatin1", name := "toBytes", desc := "(C)[B" } : Jvm.MethodName) jdk_43_method_46_code (1 : Nat) (Option.some (Jvm.ClassFile.FieldType.array Jvm.ClassFile.FieldType.byte)), Jvm.Cond.code ({ cls := "java/lang/String", name := "<init>", desc := "([BB)V" } : Jvm.MethodName) jdk_42_method_151_code (3 : Nat) (Option.none : Option Jvm.ClassFile.FieldType), Jvm.Cond.code ({ cls := "java/lang/Object", name := "<init>", desc := "()V" } : Jvm.MethodName) object_method_1_code (1 : Nat) (Option.none : Option Jvm.ClassFile.FieldType), Jvm.Cond.code ({ cls := "com/example/subject/subject/model/Wildcards", name := "matches", desc := "(Ljava/lang/String;Ljava/lang/String;)Z" } : Jvm.MethodName) prog_51_method_5_code (2 : Nat) (Option.some Jvm.ClassFile.FieldType.boolean), Jvm.Cond.code ({ cls := "com/example/subject/subject/model/Wildcards", name := "compile", desc := "(Ljava/lang/String;)Lcom/example/subject/subject/model/Wildcards;" } : Jvm.MethodName) prog_51_method_2_code (5 : Nat) (Option.some (Jvm.ClassFile.FieldType.object "com/example/subject/subject/model/Wildcards")), Jvm.Cond.code ({ cls := "java/lang/String", name := "contains", desc := "(Ljava/lang/CharSequence;)Z" } : Jvm.MethodName) jdk_42_method_97_code (2 : Nat) (Option.some Jvm.ClassFile.FieldType.boolean), Jvm.Cond.code ({ cls := "java/lang/String", name := "toString", desc := "()Ljava/lang/String;" } : Jvm.MethodName) jdk_42_method_126_code (1 : Nat) (Option.some (Jvm.ClassFile.FieldType.object "java/lang/String")), Jvm.Cond.code ({ cls := "java/lang/String", name := "indexOf", desc := "(Ljava/lang/String;)I" } : Jvm.MethodName) jdk_42_method_84_code (3 : Nat) (Option.some Jvm.ClassFile.FieldType.int), Jvm.Cond.code ({ cls := "java/lang/String", name := "coder", desc := "()B" } : Jvm.MethodName) jdk_42_method_152_code (1 : Nat) (Option.some Jvm.ClassFile.FieldType.byte), Jvm.Cond.code ({ cls := "java/lang/String", name := "isLatin1", desc := "()Z" } : Jvm.MethodName) jdk_42_method_154_code (1 : Nat) (Option.some Jvm.ClassFile.FieldType.boolean), Jvm.Cond.code ({ cls := "java/lang/StringLatin1", name := "indexOf", desc := "([B[B)I" } : Jvm.MethodName) jdk_43_method_24_code (2 : Nat) (Option.some Jvm.ClassFile.FieldType.int), Jvm.Cond.code ({ cls := "java/lang/StringLatin1", name := "indexOf", desc := "([BI[BII)I" } : Jvm.MethodName) jdk_43_method_25_code (11 : Nat) (Option.some Jvm.ClassFile.FieldType.int), Jvm.Cond.code ({ cls := "com/example/subject/subject/model/Wildcards", name := "<init>", desc := "(Ljava/lang/String;)V" } : Jvm.MethodName) prog_51_method_1_code (2 : Nat) (Option.none : Option Jvm.ClassFile.FieldType), Jvm.Cond.code ({ cls := "java/lang/String", name := "indexOf", desc := "(I)I" } : Jvm.MethodName) jdk_42_method_79_code (2 : Nat) (Option.some Jvm.ClassFile.FieldType.int), Jvm.Cond.code ({ cls := "java/lang/String", name := "indexOf", desc := "(II)I" } : Jvm.MethodName) jdk_42_method_80_code (3 : Nat) (Option.some Jvm.ClassFile.FieldType.int), Jvm.Cond.code ({ cls := "java/lang/String", name := "length", desc := "()I" } : Jvm.MethodName) jdk_42_method_54_code (1 : Nat) (Option.some Jvm.ClassFile.FieldType.int), Jvm.Cond.code ({ cls := "java/lang/StringLatin1", name := "indexOf", desc := "([BIII)I" } : Jvm.MethodName) jdk_43_method_22_code (4 : Nat) (Option.some Jvm.ClassFile.FieldType.int), Jvm.Cond.code ({ cls := "java/lang/StringLatin1", name := "canEncode", desc := "(I)Z" } : Jvm.MethodName) jdk_43_method_4_code (1 : Nat) (Option.some Jvm.ClassFile.FieldType.boolean), Jvm.Cond.code ({ cls := "java/lang/Math", name := "max", desc := "(II)I" } : Jvm.MethodName) jdk_29_method_65_code (2 : Nat) (Option.some Jvm.ClassFile.FieldType.int), Jvm.Cond.code ({ cls := "java/lang/Math", name := "min", desc := "(II)I" } : Jvm.MethodName) jdk_29_method_69_code (2 : Nat) (Option.some Jvm.ClassFile.FieldType.int), Jvm.Cond.code ({ cls := "java/lang/StringLatin1", name := "indexOfChar", desc := "([BIII)I" } : Jvm.MethodName) jdk_43_method_23_code (6 : Nat) (Option.some Jvm.ClassFile.FieldType.int), Jvm.Cond.code ({ cls := "java/lang/String", name := "lastIndexOf", desc := "(I)I" } : Jvm.MethodName) jdk_42_method_82_code (2 : Nat) (Option.some Jvm.ClassFile.FieldType.int), Jvm.Cond.code ({ cls := "java/lang/String", name := "lastIndexOf", desc := "(II)I" } : Jvm.MethodName) jdk_42_method_83_code (3 : Nat) (Option.some Jvm.ClassFile.FieldType.int), Jvm.Cond.code ({ cls := "java/lang/StringLatin1", name := "lastIndexOf", desc := "([BII)I" } : Jvm.MethodName) jdk_43_method_27_code (4 : Nat) (Option.some Jvm.ClassFile.FieldType.int), Jvm.Cond.code ({ cls := "com/example/subject/subject/model/Wildcards$Places", name := "<init>", desc := "(Ljava/lang/String;)V" } : Jvm.MethodName) prog_52_method_1_code (10 : Nat) (Option.none : Option Jvm.ClassFile.FieldType), Jvm.Cond.code ({ cls := "java/lang/String", name := "charAt", desc := "(I)C" } : Jvm.MethodName) jdk_42_method_56_code (2 : Nat) (Option.some Jvm.ClassFile.FieldType.char), Jvm.Cond.code ({ cls := "java/lang/StringLatin1", name := "charAt", desc := "([BI)C" } : Jvm.MethodName) jdk_43_method_2_code (2 : Nat) (Option.some Jvm.ClassFile.FieldType.char), Jvm.Cond.code ({ cls := "java/lang/String", name := "checkIndex", desc := "(II)V" } : Jvm.MethodName) jdk_42_method_155_code (2 : Nat) (Option.none : Option Jvm.ClassFile.FieldType), Jvm.Cond.code ({ cls := "jdk/internal/util/Preconditions", name := "checkIndex", desc := "(IILjava/util/function/BiFunction;)I" } : Jvm.MethodName) jdk_41_method_11_code (3 : Nat) (Option.some Jvm.ClassFile.FieldType.int), Jvm.Cond.code ({ cls := "java/lang/Long", name := "bitCount", desc := "(J)I" } : Jvm.MethodName) jdk_35_method_50_code (2 : Nat) (Option.some Jvm.ClassFile.FieldType.int), Jvm.Cond.code ({ cls := "com/example/subject/subject/model/Wildcards$Places", name := "slot", desc := "(C)I" } : Jvm.MethodName) prog_52_method_6_code (4 : Nat) (Option.some Jvm.ClassFile.FieldType.int), Jvm.Cond.code ({ cls := "com/example/subject/subject/model/Wildcards", name := "matches", desc := "(Ljava/lang/String;)Z" } : Jvm.MethodName) prog_51_method_7_code (6 : Nat) (Option.some Jvm.ClassFile.FieldType.boolean), Jvm.Cond.code ({ cls := "com/example/subject/subject/model/Wildcards", name := "fitsAt", desc := "(IILjava/lang/String;I)Z" } : Jvm.MethodName) prog_51_method_12_code (7 : Nat) (Option.some Jvm.ClassFile.FieldType.boolean)]
set_option maxRecDepth 65536 in
theorem codes_eq : words1.filter isCode = codes1 := rfl
theorem w_codes : ∀ c ∈ words1.filter isCode, c.before args0 about1 = true := by
  rw [codes_eq]
  intro c hc
  simp only [codes1, List.mem_cons, List.not_mem_nil, or_false] at hc
  rcases hc with rfl | rfl | rfl | rfl | rfl | rfl | rfl | rfl | rfl | rfl | rfl | rfl | rfl | rfl | rfl | rfl | rfl | rfl | rfl | rfl | rfl | rfl | rfl | rfl | rfl | rfl | rfl | rfl | rfl | rfl | rfl | rfl | rfl | rfl | rfl | rfl | rfl
  · exact w_c0
  · exact w_c1
  · exact w_c2
  · exact w_c3
  · exact w_c4
  · exact w_c5
  · exact w_c6
  · exact w_c7
  · exact w_c8
  · exact w_c9
  · exact w_c10
  · exact w_c11
  · exact w_c12
  · exact w_c13
  · exact w_c14
  · exact w_c15
  · exact w_c16
  · exact w_c17
  · exact w_c18
  · exact w_c19
  · exact w_c20
  · exact w_c21
  · exact w_c22
  · exact w_c23
  · exact w_c24
  · exact w_c25
  · exact w_c26
  · exact w_c27
  · exact w_c28
  · exact w_c29
  · exact w_c30
  · exact w_c31
  · exact w_c32
  · exact w_c33
  · exact w_c34
  · exact w_c35
  · exact w_c36
set_option maxRecDepth 65536 in
theorem w_t1 : (words1.take 24).all (fun c => isCode c || c.before args0 about1) = true := by decide +kernel
set_option maxRecDepth 65536 in
theorem w_t2 : ((words1.drop 24).take 24).all (fun c => isCode c || c.before args0 about1) = true := by decide +kernel
set_option maxRecDepth 65536 in
theorem w_t3 : (((words1.drop 24).drop 24).take 24).all (fun c => isCode c || c.before args0 about1) = true := by decide +kernel
set_option maxRecDepth 65536 in
theorem w_t4 : ((((words1.drop 24).drop 24).drop 24).take 24).all (fun c => isCode c || c.before args0 about1) = true := by decide +kernel
set_option maxRecDepth 65536 in
theorem w_t5 : (((((words1.drop 24).drop 24).drop 24).drop 24).take 24).all (fun c => isCode c || c.before args0 about1) = true := by decide +kernel
set_option maxRecDepth 65536 in
theorem w_t6 : ((((((words1.drop 24).drop 24).drop 24).drop 24).drop 24).take 24).all (fun c => isCode c || c.before args0 about1) = true := by decide +kernel
set_option maxRecDepth 65536 in
theorem w_t7 : (((((((words1.drop 24).drop 24).drop 24).drop 24).drop 24).drop 24).take 24).all (fun c => isCode c || c.before args0 about1) = true := by decide +kernel
set_option maxRecDepth 65536 in
theorem w_t8 : ((((((((words1.drop 24).drop 24).drop 24).drop 24).drop 24).drop 24).drop 24).take 24).all (fun c => isCode c || c.before args0 about1) = true := by decide +kernel
set_option maxRecDepth 65536 in
theorem w_t9 : ((((((((words1.drop 24).drop 24).drop 24).drop 24).drop 24).drop 24).drop 24).drop 24).all (fun c => isCode c || c.before args0 about1) = true := by decide +kernel
theorem w_tables : (allAtoms (Jvm.Cond.code x code maxLocals ret :: tables_1)).before args0 about1 = true := by
  rw [allAtoms_all]
  show words1.all (fun c => c.before args0 about1) = true
  refine all_split ?_ w_codes
  rw [← List.take_append_drop 24 words1, List.all_append, w_t1, ← List.take_append_drop 24 (words1.drop 24), List.all_append, w_t2, ← List.take_append_drop 24 ((words1.drop 24).drop 24), List.all_append, w_t3, ← List.take_append_drop 24 (((words1.drop 24).drop 24).drop 24), List.all_append, w_t4, ← List.take_append_drop 24 ((((words1.drop 24).drop 24).drop 24).drop 24), List.all_append, w_t5, ← List.take_append_drop 24 (((((words1.drop 24).drop 24).drop 24).drop 24).drop 24), List.all_append, w_t6, ← List.take_append_drop 24 ((((((words1.drop 24).drop 24).drop 24).drop 24).drop 24).drop 24), List.all_append, w_t7, ← List.take_append_drop 24 (((((((words1.drop 24).drop 24).drop 24).drop 24).drop 24).drop 24).drop 24), List.all_append, w_t8, w_t9]
  rfl
set_option maxRecDepth 65536 in
theorem w_rest : rest_1_c.before args0 about1 = true := by decide +kernel
set_option maxRecDepth 65536 in
theorem w_case : (Jvm.Cond.and given_1 narrow_1).before args0 about1 = true := by decide +kernel
set_option maxRecDepth 65536 in
theorem w_consts : constsHeld consts_1 about1 := Jvm.Lit.constsHeldB_iff.mp (by decide +kernel)
theorem w_applies : (headSpec (Jvm.Cond.code x code maxLocals ret :: tables_1) room_1).applies x e0.platform about1 = true :=
  (Spec.applies_iff w_frames).mpr ⟨w_running, w_runnable, w_alone, w_named, w_hears, w_ripe, w_room, w_tables⟩
theorem atStart : AtStart classFile x code maxLocals ret World_1 tables_1 room_1 Calls_1 rest_1 Pre_1 launch0 p0 e0 about1 theMethod args0 below0 :=
  ⟨lists_1, trivial, launch0.admits_env _ _ _, launch0.least_env, fairChoices_fair.cas, fairChoices_fair.clock, w_frames, w_args, w_heap, w_applies, ⟨w_consts, trivial⟩, w_rest, w_case⟩
end start1
theorem witness_1 : WitnessClaimed_1 := ⟨start1.p0, start1.e0, start1.about1, start1.theMethod, start1.args0, start1.below0, start1.atStart⟩
end Jvm.Pilot.@@N@@
