import JvmDerived
import JvmDerived.Pilot.@@N@@Statement
import JvmDerived.Pilot.@@N@@Code
set_option linter.unusedVariables false
set_option linter.unusedSimpArgs false
namespace Jvm.RoadKit
open Sem ClassFile Op Lib Jvm.Stand Jvm.Free Jvm.LawKit
section New
variable {p : Program} {l : Launch} {e : Env} {R : Room} {s : State} {m : MethodId} {args : Array Value} {below : List Frame} {meth : Method} {c : Code} {T : State} {locs : List Loc} {cells slots : Nat}
theorem retI (X : Stand p l e R s m args below meth c T locs cells slots) (hx : p.tables.exec = Jvm.exec) {pc : Nat} {Ls : Array Slot} {z : Int32} {rest : List Value} (hret : meth.sig.returnType = some .int) (hd : decode c.code pc = .ok (.ireturn, 1)) {fs : List Frame}
    (hl : ∀ (f : JFrame) (acts : List Action), f.method = m → f.locked = none → f.entered = [] → (doReturn e (T.setTop f) acts (some (.int z))).1 = T.setFrames fs) : Steps p.tables e below (T.setTop (mkF m pc Ls (.int z :: rest))) (T.setFrames fs) := by
  have hm' : T.vm.method? m = some meth := X.method'
  have hn : narrow .int (.int z) = .int z := rfl
  show Steps p.tables e below (T.setTop { method := m, pc := pc, locals := Ls, stack := _ :: rest, locked := none }) _
  jvm_step X.here [X.here.top, hx, hd, hm', hret, hn]
  first | (intro acts; rw [hl _ acts rfl rfl rfl]) | rw [hl _ _ rfl rfl rfl]
  exact Steps.refl _
end New
end Jvm.RoadKit

namespace Jvm.Pilot.@@N@@
open Jvm Jvm.ClassFile Sem Op Lib Jvm.Free Jvm.Stand Jvm.LawKit Jvm.RoadKit Bundle Jvm.Pilot.@@N@@.Jvm.D
theorem own_fi {t : Term} {a : Addr} {C n d : String} {k : Int32} {args : Array Value} {s : State} (ev : t.eval args s none [] s = some (.ref a)) (h : (Jvm.Cond.eq (.field t C n d) (.int k)).value args s none s [] = some true) : s.fieldOf? a C n d = some (.int k) := by
  obtain ⟨x, y, hx, hy, k1, k2⟩ := cmp_v (Or.inl h)
  have hy' : y = .int k := (Option.some.inj (hy.symm.trans (Term.int_eval k)))
  subst hy'
  cases x with
  | int z =>
    have e : (Jvm.Cond.eq (.field t C n d) (.int k)).value args s none s [] = some (decide (z = k)) := by simp [Cond.value, hx, hy]
    have := gotT e h
    subst this
    rw [← fld_at ev]; exact hx
  | _ => simp [Kin] at k1 k2
theorem own_fn {t : Term} {a : Addr} {C n d : String} {args : Array Value} {s : State} (ev : t.eval args s none [] s = some (.ref a)) (h : (Jvm.Cond.eq (.field t C n d) .null).value args s none s [] = some true) : s.fieldOf? a C n d = some .null := by
  have := null_v h
  rw [fld_at ev] at this; exact this
theorem own_fr {t u : Term} {a b : Addr} {C n d : String} {args : Array Value} {s : State} (ev : t.eval args s none [] s = some (.ref a)) (ev2 : u.eval args s none [] s = some (.ref b)) (h : (Jvm.Cond.eq (.field t C n d) u).value args s none s [] = some true) : s.fieldOf? a C n d = some (.ref b) := by
  obtain ⟨x, y, hx, hy, k1, k2⟩ := cmp_v (Or.inl h)
  have hy' : y = .ref b := (Option.some.inj (hy.symm.trans ev2))
  subst hy'
  have hr : x.isRef = true := by cases x <;> simp [Kin, Value.isRef] at k1 k2 ⊢
  have e := eq_R (args := args) (first := s) (o := none) (s := s) (idx := []) hx hy hr rfl
  have := gotT e h
  subst this
  rw [← fld_at ev]; exact hx
def own_sh (s x y : Addr) : Int32 := if x = s then (if y = s then 1 else 0) else 0
theorem pn0 : plainName "com/example/ereikoussa/ereikoussa/lock/LockMode" = true := by first | (simp [plainName, overriddenIn]; done) | decide +kernel
theorem d1_0 : decode prog_29_method_5_code 0 = .ok (.aload_n 0, 1) := by decide +kernel
theorem d1_1 : decode prog_29_method_5_code 1 = .ok (.getstatic 7, 3) := by decide +kernel
theorem d1_4 : decode prog_29_method_5_code 4 = .ok (.if_acmp .ne 14, 3) := by decide +kernel
theorem d1_7 : decode prog_29_method_5_code 7 = .ok (.aload_n 1, 1) := by decide +kernel
theorem d1_8 : decode prog_29_method_5_code 8 = .ok (.getstatic 7, 3) := by decide +kernel
theorem d1_11 : decode prog_29_method_5_code 11 = .ok (.if_acmp .ne 7, 3) := by decide +kernel
theorem d1_14 : decode prog_29_method_5_code 14 = .ok (.iconst 1, 1) := by decide +kernel
theorem d1_15 : decode prog_29_method_5_code 15 = .ok (.goto 4, 3) := by decide +kernel
theorem d1_19 : decode prog_29_method_5_code 19 = .ok (.ireturn, 1) := by decide +kernel
theorem d1_18 : decode prog_29_method_5_code 18 = .ok (.iconst 0, 1) := by decide +kernel
theorem ef_1 (m : MethodId) (x0 : Addr) (x1 : Addr) : entryFrame m #[(.ref x0), (.ref x1)] 2 = mkF m 0 #[.val (.ref x0), .val (.ref x1)] [] := by first | (simp [entryFrame, mkF, argsToLocals, Value.category]; done) | rfl
def Q1 (Z : State) (r0 : Addr) (r1 : Addr) (aS : Addr) (h0 : Heap) (n0 : Nat) (v : Option Value) (h : Heap) (L : List Loc) : Prop := v = some (.int (own_sh aS r0 r1)) ∧ Fr n0 L ∧ h = h0
set_option maxRecDepth 65536 in
set_option maxHeartbeats 40000000 in
theorem rm1 (l : Launch) (Z : State) (a0 : Array Value) (hw : ∀ d ∈ tables_1, d.before a0 Z = true) (ws : List Jvm.Cond) (r0 : Addr) (r1 : Addr) (aS : Addr) (h0 : Heap) (n0 : Nat) (Z0 : n0 ≤ h0.size) (O0 : Old Z n0 h0) (S_SHARED : Sta Z Z.heap "com/example/ereikoussa/ereikoussa/lock/LockMode" "SHARED" "Lcom/example/ereikoussa/ereikoussa/lock/LockMode;" (.ref aS)) :
    MetFree l (⟨"com/example/ereikoussa/ereikoussa/lock/LockMode", "sharesWith", "(Lcom/example/ereikoussa/ereikoussa/lock/LockMode;)Z"⟩ : MethodName) (head1 (Jvm.Cond.code (⟨"com/example/ereikoussa/ereikoussa/lock/LockMode", "sharesWith", "(Lcom/example/ereikoussa/ereikoussa/lock/LockMode;)Z"⟩ : MethodName) prog_29_method_5_code 2 (some .boolean) :: ws) ({ frames := 0, cells := 0, slots := 0, locals := 0 } : Room)) (fun a U => a = #[(.ref r0), (.ref r1)] ∧ Z.Warmed39 U.vm ∧ U.heap = h0) (fun _ _ _ _ _ => True) (fun _ U o U' => ∃ v L, o = .returned v ∧ Q1 Z r0 r1 aS h0 n0 v U'.heap L ∧ FrameEnd U o U' L ({ frames := 0, cells := 0, slots := 0, locals := 0 } : Room).cells ({ frames := 0, cells := 0, slots := 0, locals := 0 } : Room).slots) := by
  refine MetFree.of_bodySF (plainFor_of_name pn0) hisR ?_
  intro p e s m args below meth c s₁ Bd hml0 hP hK
  obtain ⟨rfl, hZ, hh⟩ := hP
  have hx := Bd.exec
  have hby := Bd.bytes
  have hml : c.maxLocals = 2 := hml0
  have hown : s.vm.findClass "com/example/ereikoussa/ereikoussa/lock/LockMode" = some m.cls := findClass_of_methodNamed Bd.named
  have hnm := (name_of_methodNamed Bd.named Bd.method).1
  have X0 : Stand p l e ({ frames := 0, cells := 0, slots := 0, locals := 0 } : Room) s m #[(.ref r0), (.ref r1)] below meth c s₁ [] 0 0 := Stand.of_body Bd
  have e0 : s₁.heap = h0 := by rw [← hh, Bd.state]; rfl
  have N0 := Fr.nil n0
  have pre0 : ∀ t, Steps p.tables e below (s₁.setTop (mkF m 0 #[rv r0, rv r1] [])) t → Steps p.tables e below (s₁.setTop (entryFrame m #[(.ref r0), (.ref r1)] 2)) t := fun t k => castTop (ef_1 m r0 r1) k
  have pre1 : ∀ t, Steps p.tables e below (s₁.setTop (mkF m 1 #[rv r0, rv r1] [(.ref r0)])) t → Steps p.tables e below (s₁.setTop (entryFrame m #[(.ref r0), (.ref r1)] 2)) t := by
    intro t kt
    refine pre0 _ ?_
    show Steps p.tables e below (s₁.setTop (mkF m 0 #[rv r0, rv r1] [])) _
    refine XS.aloadN X0.here hx rfl (hb hby d1_0) rfl rfl ?_
    exact kt
  obtain ⟨T2, X2, e2, st2⟩ := getS2 X0 hx hZ hown (host := "") (Or.inl (hw _ (List.mem_of_getElem? (i := 10) rfl))) Via.refl e0 (S_SHARED.ext (O0.keep (Keep.refl h0 []) all0).2) (g := (mkF m 1 #[rv r0, rv r1] [(.ref r0)])) rfl (hb hby d1_1)
  have pre3 : ∀ t, Steps p.tables e below (T2.setTop (mkF m 4 #[rv r0, rv r1] [(.ref aS), (.ref r0)])) t → Steps p.tables e below (s₁.setTop (entryFrame m #[(.ref r0), (.ref r1)] 2)) t := by
    intro t kt
    refine pre1 _ ?_
    show Steps p.tables e below (s₁.setTop (mkF m 1 #[rv r0, rv r1] [(.ref r0)])) _
    refine st2 _ ?_
    exact kt
  by_cases ha4 : r0 = aS
  · have pre4 : ∀ t, Steps p.tables e below (T2.setTop (mkF m 8 #[rv r0, rv r1] [(.ref r1)])) t → Steps p.tables e below (s₁.setTop (entryFrame m #[(.ref r0), (.ref r1)] 2)) t := by
      intro t kt
      refine pre3 _ ?_
      show Steps p.tables e below (T2.setTop (mkF m 4 #[rv r0, rv r1] [(.ref aS), (.ref r0)])) _
      refine Jvm.RoadKit.acmp (g := (mkF m 4 #[rv r0, rv r1] [(.ref aS), (.ref r0)])) X2 hx rfl rfl rfl (pc0 := 4) (pc' := 7) (same := true) rfl (hb hby d1_4) rfl (decide_eq_true (congrArg Value.ref ha4)) (by decide) (by decide) ?_
      show Steps p.tables e below (T2.setTop (mkF m 7 #[rv r0, rv r1] [])) _
      refine XS.aloadN X2.here hx rfl (hb hby d1_7) rfl rfl ?_
      exact kt
    obtain ⟨T5, X5, e5, st5⟩ := getS2 X2 hx hZ hown (host := "") (Or.inl (hw _ (List.mem_of_getElem? (i := 10) rfl))) Via.refl e2 (S_SHARED.ext (O0.keep (Keep.refl h0 []) all0).2) (g := (mkF m 8 #[rv r0, rv r1] [(.ref r1)])) rfl (hb hby d1_8)
    have pre6 : ∀ t, Steps p.tables e below (T5.setTop (mkF m 11 #[rv r0, rv r1] [(.ref aS), (.ref r1)])) t → Steps p.tables e below (s₁.setTop (entryFrame m #[(.ref r0), (.ref r1)] 2)) t := by
      intro t kt
      refine pre4 _ ?_
      show Steps p.tables e below (T2.setTop (mkF m 8 #[rv r0, rv r1] [(.ref r1)])) _
      refine st5 _ ?_
      exact kt
    by_cases ha11 : r1 = aS
    · have pre7 : ∀ t, Steps p.tables e below (T5.setTop (mkF m 19 #[rv r0, rv r1] [(.int (1 : Int32))])) t → Steps p.tables e below (s₁.setTop (entryFrame m #[(.ref r0), (.ref r1)] 2)) t := by
        intro t kt
        refine pre6 _ ?_
        show Steps p.tables e below (T5.setTop (mkF m 11 #[rv r0, rv r1] [(.ref aS), (.ref r1)])) _
        refine Jvm.RoadKit.acmp (g := (mkF m 11 #[rv r0, rv r1] [(.ref aS), (.ref r1)])) X5 hx rfl rfl rfl (pc0 := 11) (pc' := 14) (same := true) rfl (hb hby d1_11) rfl (decide_eq_true (congrArg Value.ref ha11)) (by decide) (by decide) ?_
        show Steps p.tables e below (T5.setTop (mkF m 14 #[rv r0, rv r1] [])) _
        refine XS.iconst X5.here hx rfl (hb hby d1_14) ?_
        show Steps p.tables e below (T5.setTop (mkF m 15 #[rv r0, rv r1] [(.int (1 : Int32))])) _
        refine XS.goto X5.here hx rfl (pc0 := 15) (pc' := 19) rfl (hb hby d1_15) (by decide) (by decide) ?_
        exact kt
      obtain ⟨fs, hr, hrun, hended, hW, hsame⟩ := X5.leave (v := some (.int (1 : Int32))) (fun h => by rw [Bd.returns] at h; cases h)
      refine ⟨_, _, pre7 _ ?_, hrun, hended, _, _, rfl, ?_, ⟨_, rfl⟩, hW, hsame.mono (by decide) (by decide)⟩
      · show Steps p.tables e below (T5.setTop (mkF m 19 #[rv r0, rv r1] [(.int (1 : Int32))])) _
        exact retN X5 hx (t := .boolean) Bd.returns (by simp) (hb hby d1_19) hr
      · show Q1 Z r0 r1 aS h0 n0 _ T5.heap _
        rw [e5]
        exact ⟨congrArg (fun z => some (Value.int z)) ((if_pos ha4).trans ((if_pos ha11).trans rfl)).symm, N0, rfl⟩
    · have pre8 : ∀ t, Steps p.tables e below (T5.setTop (mkF m 19 #[rv r0, rv r1] [(.int (0 : Int32))])) t → Steps p.tables e below (s₁.setTop (entryFrame m #[(.ref r0), (.ref r1)] 2)) t := by
        intro t kt
        refine pre6 _ ?_
        show Steps p.tables e below (T5.setTop (mkF m 11 #[rv r0, rv r1] [(.ref aS), (.ref r1)])) _
        refine Jvm.RoadKit.acmp (g := (mkF m 11 #[rv r0, rv r1] [(.ref aS), (.ref r1)])) X5 hx rfl rfl rfl (pc0 := 11) (pc' := 18) (same := false) rfl (hb hby d1_11) rfl (decide_eq_false fun q => ha11 (Value.ref.inj q)) (by decide) (by decide) ?_
        show Steps p.tables e below (T5.setTop (mkF m 18 #[rv r0, rv r1] [])) _
        refine XS.iconst X5.here hx rfl (hb hby d1_18) ?_
        exact kt
      obtain ⟨fs, hr, hrun, hended, hW, hsame⟩ := X5.leave (v := some (.int (0 : Int32))) (fun h => by rw [Bd.returns] at h; cases h)
      refine ⟨_, _, pre8 _ ?_, hrun, hended, _, _, rfl, ?_, ⟨_, rfl⟩, hW, hsame.mono (by decide) (by decide)⟩
      · show Steps p.tables e below (T5.setTop (mkF m 19 #[rv r0, rv r1] [(.int (0 : Int32))])) _
        exact retN X5 hx (t := .boolean) Bd.returns (by simp) (hb hby d1_19) hr
      · show Q1 Z r0 r1 aS h0 n0 _ T5.heap _
        rw [e5]
        exact ⟨congrArg (fun z => some (Value.int z)) ((if_pos ha4).trans ((if_neg ha11).trans rfl)).symm, N0, rfl⟩
  · have pre9 : ∀ t, Steps p.tables e below (T2.setTop (mkF m 19 #[rv r0, rv r1] [(.int (0 : Int32))])) t → Steps p.tables e below (s₁.setTop (entryFrame m #[(.ref r0), (.ref r1)] 2)) t := by
      intro t kt
      refine pre3 _ ?_
      show Steps p.tables e below (T2.setTop (mkF m 4 #[rv r0, rv r1] [(.ref aS), (.ref r0)])) _
      refine Jvm.RoadKit.acmp (g := (mkF m 4 #[rv r0, rv r1] [(.ref aS), (.ref r0)])) X2 hx rfl rfl rfl (pc0 := 4) (pc' := 18) (same := false) rfl (hb hby d1_4) rfl (decide_eq_false fun q => ha4 (Value.ref.inj q)) (by decide) (by decide) ?_
      show Steps p.tables e below (T2.setTop (mkF m 18 #[rv r0, rv r1] [])) _
      refine XS.iconst X2.here hx rfl (hb hby d1_18) ?_
      exact kt
    obtain ⟨fs, hr, hrun, hended, hW, hsame⟩ := X2.leave (v := some (.int (0 : Int32))) (fun h => by rw [Bd.returns] at h; cases h)
    refine ⟨_, _, pre9 _ ?_, hrun, hended, _, _, rfl, ?_, ⟨_, rfl⟩, hW, hsame.mono (by decide) (by decide)⟩
    · show Steps p.tables e below (T2.setTop (mkF m 19 #[rv r0, rv r1] [(.int (0 : Int32))])) _
      exact retN X2 hx (t := .boolean) Bd.returns (by simp) (hb hby d1_19) hr
    · show Q1 Z r0 r1 aS h0 n0 _ T2.heap _
      rw [e2]
      exact ⟨congrArg (fun z => some (Value.int z)) ((if_neg ha4).trans rfl).symm, N0, rfl⟩
theorem pn1 : plainName "com/example/ereikoussa/ereikoussa/lock/LockModeSharesWithPinLaw" = true := by first | (simp [plainName, overriddenIn]; done) | decide +kernel
theorem pd2 : parseMethodDescriptor "(Lcom/example/ereikoussa/ereikoussa/lock/LockMode;)Z" = some ⟨[(.object "com/example/ereikoussa/ereikoussa/lock/LockMode")], some .boolean⟩ := by decide +kernel
theorem ef_0 (m : MethodId) (x0 : Int32) (x1 : Int32) : entryFrame m #[(.int x0), (.int x1)] maxLocals = mkF m 0 #[.val (.int x0), .val (.int x1), .unset, .unset, .unset, .unset, .unset, .unset, .unset] [] := by first | (simp [entryFrame, mkF, argsToLocals, Value.category, maxLocals]; done) | rfl
def Q0 (Z : State) (p0 : Int32) (p1 : Int32) (aS : Addr) (aE : Addr) (h0 : Heap) (n0 : Nat) (v : Option Value) (h : Heap) (L : List Loc) : Prop := v = some (.int 1) ∧ Fr n0 L
set_option maxRecDepth 65536 in
set_option maxHeartbeats 40000000 in
theorem rm0 (l : Launch) (Z : State) (a0 : Array Value) (hw : ∀ d ∈ tables_1, d.before a0 Z = true) (ws : List Jvm.Cond) (p0 : Int32) (p1 : Int32) (aS : Addr) (aE : Addr) (h0 : Heap) (n0 : Nat) (Z0 : n0 ≤ h0.size) (O0 : Old Z n0 h0) (S_SHARED : Sta Z Z.heap "com/example/ereikoussa/ereikoussa/lock/LockMode" "SHARED" "Lcom/example/ereikoussa/ereikoussa/lock/LockMode;" (.ref aS)) (E_aS : Exa Z Z.heap aS "com/example/ereikoussa/ereikoussa/lock/LockMode") (S_EXCLUSIVE : Sta Z Z.heap "com/example/ereikoussa/ereikoussa/lock/LockMode" "EXCLUSIVE" "Lcom/example/ereikoussa/ereikoussa/lock/LockMode;" (.ref aE)) (E_aE : Exa Z Z.heap aE "com/example/ereikoussa/ereikoussa/lock/LockMode") (hne : aE ≠ aS) :
    MetFree l x (head1 (Jvm.Cond.code x code maxLocals ret :: ws) room_1) (fun a U => a = #[(.int p0), (.int p1)] ∧ Z.Warmed39 U.vm ∧ U.heap = h0) (fun _ _ _ _ _ => True) (fun _ U o U' => ∃ v L, o = .returned v ∧ Q0 Z p0 p1 aS aE h0 n0 v U'.heap L ∧ FrameEnd U o U' L room_1.cells room_1.slots) := by
  refine MetFree.of_bodySF (plainFor_of_name pn1) hisR ?_
  intro p e s m args below meth c s₁ Bd hml0 hP hK
  obtain ⟨rfl, hZ, hh⟩ := hP
  have hx := Bd.exec
  have hby := Bd.bytes
  have hml : c.maxLocals = 9 := hml0
  have hown : s.vm.findClass "com/example/ereikoussa/ereikoussa/lock/LockModeSharesWithPinLaw" = some m.cls := findClass_of_methodNamed Bd.named
  have hnm := (name_of_methodNamed Bd.named Bd.method).1
  have X0 : Stand p l e room_1 s m #[(.int p0), (.int p1)] below meth c s₁ [] 0 0 := Stand.of_body Bd
  have e0 : s₁.heap = h0 := by rw [← hh, Bd.state]; rfl
  have N0 := Fr.nil n0
  have pre0 : ∀ t, Steps p.tables e below (s₁.setTop (mkF m 0 #[iv p0, iv p1, .unset, .unset, .unset, .unset, .unset, .unset, .unset] [])) t → Steps p.tables e below (s₁.setTop (entryFrame m #[(.int p0), (.int p1)] maxLocals)) t := fun t k => castTop (ef_0 m p0 p1) k
  have pre1 : ∀ t, Steps p.tables e below (s₁.setTop (mkF m 3 #[iv p0, iv p1, .unset, .unset, .unset, .unset, .unset, .unset, .unset] [(.int (p0 &&& (1 : Int32)))])) t → Steps p.tables e below (s₁.setTop (entryFrame m #[(.int p0), (.int p1)] maxLocals)) t := by
    intro t kt
    refine pre0 _ ?_
    show Steps p.tables e below (s₁.setTop (mkF m 0 #[iv p0, iv p1, .unset, .unset, .unset, .unset, .unset, .unset, .unset] [])) _
    refine XS.iloadN X0.here hx rfl (hb hby at_0) rfl ?_
    show Steps p.tables e below (s₁.setTop (mkF m 1 #[iv p0, iv p1, .unset, .unset, .unset, .unset, .unset, .unset, .unset] [(.int p0)])) _
    refine XS.iconst X0.here hx rfl (hb hby at_1) ?_
    show Steps p.tables e below (s₁.setTop (mkF m 2 #[iv p0, iv p1, .unset, .unset, .unset, .unset, .unset, .unset, .unset] [(.int (1 : Int32)), (.int p0)])) _
    refine XS.iand X0.here hx rfl (hb hby at_2) rfl ?_
    exact kt
  by_cases hc3 : (p0 &&& (1 : Int32)) = (0 : Int32)
  · have pre2 : ∀ t, Steps p.tables e below (s₁.setTop (mkF m 15 #[iv p0, iv p1, iv (0 : Int32), .unset, .unset, .unset, .unset, .unset, .unset] [(.int (p1 &&& (1 : Int32)))])) t → Steps p.tables e below (s₁.setTop (entryFrame m #[(.int p0), (.int p1)] maxLocals)) t := by
      intro t kt
      refine pre1 _ ?_
      show Steps p.tables e below (s₁.setTop (mkF m 3 #[iv p0, iv p1, .unset, .unset, .unset, .unset, .unset, .unset, .unset] [(.int (p0 &&& (1 : Int32)))])) _
      refine XS.ifYes X0.here hx rfl (pc0 := 3) (pc' := 10) rfl (hb hby at_3) rfl ((if0 _ _).trans (teq hc3).1) (by decide) (by decide) ?_
      show Steps p.tables e below (s₁.setTop (mkF m 10 #[iv p0, iv p1, .unset, .unset, .unset, .unset, .unset, .unset, .unset] [])) _
      refine XS.iconst X0.here hx rfl (hb hby at_10) ?_
      show Steps p.tables e below (s₁.setTop (mkF m 11 #[iv p0, iv p1, .unset, .unset, .unset, .unset, .unset, .unset, .unset] [(.int (0 : Int32))])) _
      refine XS.istoreN X0.here hx rfl (hb hby at_11) rfl (l' := #[iv p0, iv p1, iv (0 : Int32), .unset, .unset, .unset, .unset, .unset, .unset]) rfl ?_
      show Steps p.tables e below (s₁.setTop (mkF m 12 #[iv p0, iv p1, iv (0 : Int32), .unset, .unset, .unset, .unset, .unset, .unset] [])) _
      refine XS.iloadN X0.here hx rfl (hb hby at_12) rfl ?_
      show Steps p.tables e below (s₁.setTop (mkF m 13 #[iv p0, iv p1, iv (0 : Int32), .unset, .unset, .unset, .unset, .unset, .unset] [(.int p1)])) _
      refine XS.iconst X0.here hx rfl (hb hby at_13) ?_
      show Steps p.tables e below (s₁.setTop (mkF m 14 #[iv p0, iv p1, iv (0 : Int32), .unset, .unset, .unset, .unset, .unset, .unset] [(.int (1 : Int32)), (.int p1)])) _
      refine XS.iand X0.here hx rfl (hb hby at_14) rfl ?_
      exact kt
    by_cases hc15 : (p1 &&& (1 : Int32)) = (0 : Int32)
    · have pre3 : ∀ t, Steps p.tables e below (s₁.setTop (mkF m 34 #[iv p0, iv p1, iv (0 : Int32), iv (0 : Int32), .unset, .unset, .unset, .unset, .unset] [])) t → Steps p.tables e below (s₁.setTop (entryFrame m #[(.int p0), (.int p1)] maxLocals)) t := by
        intro t kt
        refine pre2 _ ?_
        show Steps p.tables e below (s₁.setTop (mkF m 15 #[iv p0, iv p1, iv (0 : Int32), .unset, .unset, .unset, .unset, .unset, .unset] [(.int (p1 &&& (1 : Int32)))])) _
        refine XS.ifYes X0.here hx rfl (pc0 := 15) (pc' := 22) rfl (hb hby at_15) rfl ((if0 _ _).trans (teq hc15).1) (by decide) (by decide) ?_
        show Steps p.tables e below (s₁.setTop (mkF m 22 #[iv p0, iv p1, iv (0 : Int32), .unset, .unset, .unset, .unset, .unset, .unset] [])) _
        refine XS.iconst X0.here hx rfl (hb hby at_22) ?_
        show Steps p.tables e below (s₁.setTop (mkF m 23 #[iv p0, iv p1, iv (0 : Int32), .unset, .unset, .unset, .unset, .unset, .unset] [(.int (0 : Int32))])) _
        refine XS.istoreN X0.here hx rfl (hb hby at_23) rfl (l' := #[iv p0, iv p1, iv (0 : Int32), iv (0 : Int32), .unset, .unset, .unset, .unset, .unset]) rfl ?_
        show Steps p.tables e below (s₁.setTop (mkF m 24 #[iv p0, iv p1, iv (0 : Int32), iv (0 : Int32), .unset, .unset, .unset, .unset, .unset] [])) _
        refine XS.iloadN X0.here hx rfl (hb hby at_24) rfl ?_
        show Steps p.tables e below (s₁.setTop (mkF m 25 #[iv p0, iv p1, iv (0 : Int32), iv (0 : Int32), .unset, .unset, .unset, .unset, .unset] [(.int (0 : Int32))])) _
        refine XS.ifYes X0.here hx rfl (pc0 := 25) (pc' := 34) rfl (hb hby at_25) rfl ((if0 _ _).trans (teq (by decide)).1) (by decide) (by decide) ?_
        exact kt
      obtain ⟨T4, X4, e4, st4⟩ := getS2 X0 hx hZ hown (host := "") (Or.inl (hw _ (List.mem_of_getElem? (i := 0) rfl))) Via.refl e0 (S_EXCLUSIVE.ext (O0.keep (Keep.refl h0 []) all0).2) (g := (mkF m 34 #[iv p0, iv p1, iv (0 : Int32), iv (0 : Int32), .unset, .unset, .unset, .unset, .unset] [])) rfl (hb hby at_34)
      have pre5 : ∀ t, Steps p.tables e below (T4.setTop (mkF m 49 #[iv p0, iv p1, iv (0 : Int32), iv (0 : Int32), rv aE, .unset, .unset, .unset, .unset] [])) t → Steps p.tables e below (s₁.setTop (entryFrame m #[(.int p0), (.int p1)] maxLocals)) t := by
        intro t kt
        refine pre3 _ ?_
        show Steps p.tables e below (s₁.setTop (mkF m 34 #[iv p0, iv p1, iv (0 : Int32), iv (0 : Int32), .unset, .unset, .unset, .unset, .unset] [])) _
        refine st4 _ ?_
        show Steps p.tables e below (T4.setTop (mkF m 37 #[iv p0, iv p1, iv (0 : Int32), iv (0 : Int32), .unset, .unset, .unset, .unset, .unset] [(.ref aE)])) _
        refine XS.astore X4.here hx rfl (hb hby at_37) rfl rfl (l' := #[iv p0, iv p1, iv (0 : Int32), iv (0 : Int32), rv aE, .unset, .unset, .unset, .unset]) rfl ?_
        show Steps p.tables e below (T4.setTop (mkF m 39 #[iv p0, iv p1, iv (0 : Int32), iv (0 : Int32), rv aE, .unset, .unset, .unset, .unset] [])) _
        refine XS.iloadN X4.here hx rfl (hb hby at_39) rfl ?_
        show Steps p.tables e below (T4.setTop (mkF m 40 #[iv p0, iv p1, iv (0 : Int32), iv (0 : Int32), rv aE, .unset, .unset, .unset, .unset] [(.int (0 : Int32))])) _
        refine XS.ifYes X4.here hx rfl (pc0 := 40) (pc' := 49) rfl (hb hby at_40) rfl ((if0 _ _).trans (teq (by decide)).1) (by decide) (by decide) ?_
        exact kt
      obtain ⟨T6, X6, e6, st6⟩ := getS2 X4 hx hZ hown (host := "") (Or.inl (hw _ (List.mem_of_getElem? (i := 0) rfl))) Via.refl e4 (S_EXCLUSIVE.ext (O0.keep (Keep.refl h0 []) all0).2) (g := (mkF m 49 #[iv p0, iv p1, iv (0 : Int32), iv (0 : Int32), rv aE, .unset, .unset, .unset, .unset] [])) rfl (hb hby at_49)
      have pre7 : ∀ t, Steps p.tables e below (T6.setTop (mkF m 58 #[iv p0, iv p1, iv (0 : Int32), iv (0 : Int32), rv aE, rv aE, .unset, .unset, .unset] [(.ref aE), (.ref aE)])) t → Steps p.tables e below (s₁.setTop (entryFrame m #[(.int p0), (.int p1)] maxLocals)) t := by
        intro t kt
        refine pre5 _ ?_
        show Steps p.tables e below (T4.setTop (mkF m 49 #[iv p0, iv p1, iv (0 : Int32), iv (0 : Int32), rv aE, .unset, .unset, .unset, .unset] [])) _
        refine st6 _ ?_
        show Steps p.tables e below (T6.setTop (mkF m 52 #[iv p0, iv p1, iv (0 : Int32), iv (0 : Int32), rv aE, .unset, .unset, .unset, .unset] [(.ref aE)])) _
        refine XS.astore X6.here hx rfl (hb hby at_52) rfl rfl (l' := #[iv p0, iv p1, iv (0 : Int32), iv (0 : Int32), rv aE, rv aE, .unset, .unset, .unset]) rfl ?_
        show Steps p.tables e below (T6.setTop (mkF m 54 #[iv p0, iv p1, iv (0 : Int32), iv (0 : Int32), rv aE, rv aE, .unset, .unset, .unset] [])) _
        refine XS.aload X6.here hx rfl (hb hby at_54) rfl rfl ?_
        show Steps p.tables e below (T6.setTop (mkF m 56 #[iv p0, iv p1, iv (0 : Int32), iv (0 : Int32), rv aE, rv aE, .unset, .unset, .unset] [(.ref aE)])) _
        refine XS.aload X6.here hx rfl (hb hby at_56) rfl rfl ?_
        exact kt
      obtain ⟨cq8, kq8, q8a, q8b, q8c⟩ := isOf hZ e6 (E_aE.ext (O0.keep (Keep.refl h0 []) all0).2)
      obtain ⟨_, _, ⟨T8, L8, k8, n8⟩, -, X8, ⟨Lc8, hQ8, l8, y8, z8⟩, st8⟩ := X6.virtualBack hx (y := (⟨"com/example/ereikoussa/ereikoussa/lock/LockMode", "sharesWith", "(Lcom/example/ereikoussa/ereikoussa/lock/LockMode;)Z"⟩ : MethodName)) (z := (⟨"com/example/ereikoussa/ereikoussa/lock/LockMode", "sharesWith", "(Lcom/example/ereikoussa/ereikoussa/lock/LockMode;)Z"⟩ : MethodName)) hown (mvT hZ (hw _ (List.mem_of_getElem? (i := 5) rfl))) (mvT hZ (hw _ (List.mem_of_getElem? (i := 6) rfl))) (notFace_of_selects (args := #[]) (mvT hZ (hw _ (List.mem_of_getElem? (i := 8) rfl)))) (mvT hZ (hw _ (List.mem_of_getElem? (i := 8) rfl))) (mvT hZ (hw _ (List.mem_of_getElem? (i := 7) rfl))) (by decide) (backOf (W := 0) (rm1 l Z a0 hw [] aE aE aS h0 n0 (Nat.le_trans Z0 (Keep.refl h0 []).1) (O0.keep (Keep.refl h0 []) all0) S_SHARED) hZ (hw _ (List.mem_of_getElem? (i := 9) rfl)) (hw _ (List.mem_of_getElem? (i := 1) rfl)) (by decide) (by decide)) q8a q8c (g := (mkF m 58 #[iv p0, iv p1, iv (0 : Int32), iv (0 : Int32), rv aE, rv aE, .unset, .unset, .unset] [(.ref aE), (.ref aE)])) rfl (by rw [hml]; rfl) (Steps.refl _) (argsL := [(.ref aE)]) (rest := []) (lenOf pd2 rfl) rfl (by show 2 * 0 + _ ≤ _; exact Nat.le_of_eq rfl) (hb hby at_58) (fun _ _ => ⟨rfl, e6, (by decide : 0 + 0 ≤ _), (by decide : 0 + 0 ≤ _)⟩)
      dsimp only [Pt.U, Pt.locs, Pt.cells, Pt.slots] at X8 l8 y8 z8 st8 hQ8
      subst l8 y8 z8
      obtain ⟨rfl, N8q, hh8⟩ := hQ8
      have N8 := Fr.app N0 N8q
      have pre9 : ∀ t, Steps p.tables e below (T8.setTop (mkF m 67 #[iv p0, iv p1, iv (0 : Int32), iv (0 : Int32), rv aE, rv aE, iv (own_sh aS aE aE), .unset, .unset] [(.ref aE), (.ref aE)])) t → Steps p.tables e below (s₁.setTop (entryFrame m #[(.int p0), (.int p1)] maxLocals)) t := by
        intro t kt
        refine pre7 _ ?_
        show Steps p.tables e below (T6.setTop (mkF m 58 #[iv p0, iv p1, iv (0 : Int32), iv (0 : Int32), rv aE, rv aE, .unset, .unset, .unset] [(.ref aE), (.ref aE)])) _
        refine st8.trans ?_
        show Steps p.tables e below (T8.setTop (mkF m 61 #[iv p0, iv p1, iv (0 : Int32), iv (0 : Int32), rv aE, rv aE, .unset, .unset, .unset] [(.int (own_sh aS aE aE))])) _
        refine XS.istore X8.here hx rfl (hb hby at_61) rfl (l' := #[iv p0, iv p1, iv (0 : Int32), iv (0 : Int32), rv aE, rv aE, iv (own_sh aS aE aE), .unset, .unset]) rfl ?_
        show Steps p.tables e below (T8.setTop (mkF m 63 #[iv p0, iv p1, iv (0 : Int32), iv (0 : Int32), rv aE, rv aE, iv (own_sh aS aE aE), .unset, .unset] [])) _
        refine XS.aload X8.here hx rfl (hb hby at_63) rfl rfl ?_
        show Steps p.tables e below (T8.setTop (mkF m 65 #[iv p0, iv p1, iv (0 : Int32), iv (0 : Int32), rv aE, rv aE, iv (own_sh aS aE aE), .unset, .unset] [(.ref aE)])) _
        refine XS.aload X8.here hx rfl (hb hby at_65) rfl rfl ?_
        exact kt
      obtain ⟨cq10, kq10, q10a, q10b, q10c⟩ := isOf hZ hh8 (E_aE.ext (O0.keep (Keep.refl h0 []) all0).2)
      obtain ⟨_, _, ⟨T10, L10, k10, n10⟩, -, X10, ⟨Lc10, hQ10, l10, y10, z10⟩, st10⟩ := X8.virtualBack hx (y := (⟨"com/example/ereikoussa/ereikoussa/lock/LockMode", "sharesWith", "(Lcom/example/ereikoussa/ereikoussa/lock/LockMode;)Z"⟩ : MethodName)) (z := (⟨"com/example/ereikoussa/ereikoussa/lock/LockMode", "sharesWith", "(Lcom/example/ereikoussa/ereikoussa/lock/LockMode;)Z"⟩ : MethodName)) hown (mvT hZ (hw _ (List.mem_of_getElem? (i := 5) rfl))) (mvT hZ (hw _ (List.mem_of_getElem? (i := 6) rfl))) (notFace_of_selects (args := #[]) (mvT hZ (hw _ (List.mem_of_getElem? (i := 8) rfl)))) (mvT hZ (hw _ (List.mem_of_getElem? (i := 8) rfl))) (mvT hZ (hw _ (List.mem_of_getElem? (i := 7) rfl))) (by decide) (backOf (W := 0) (rm1 l Z a0 hw [] aE aE aS h0 n0 (Nat.le_trans Z0 (Keep.refl h0 []).1) (O0.keep (Keep.refl h0 []) all0) S_SHARED) hZ (hw _ (List.mem_of_getElem? (i := 9) rfl)) (hw _ (List.mem_of_getElem? (i := 1) rfl)) (by decide) (by decide)) q10a q10c (g := (mkF m 67 #[iv p0, iv p1, iv (0 : Int32), iv (0 : Int32), rv aE, rv aE, iv (own_sh aS aE aE), .unset, .unset] [(.ref aE), (.ref aE)])) rfl (by rw [hml]; rfl) (Steps.refl _) (argsL := [(.ref aE)]) (rest := []) (lenOf pd2 rfl) rfl (by show 2 * 0 + _ ≤ _; exact Nat.le_of_eq rfl) (hb hby at_67) (fun _ _ => ⟨rfl, hh8, (by decide : 0 + 0 ≤ _), (by decide : 0 + 0 ≤ _)⟩)
      dsimp only [Pt.U, Pt.locs, Pt.cells, Pt.slots] at X10 l10 y10 z10 st10 hQ10
      subst l10 y10 z10
      obtain ⟨rfl, N10q, hh10⟩ := hQ10
      have N10 := Fr.app N8 N10q
      have pre12 : ∀ t, Steps p.tables e below (T10.setTop (mkF m 99 #[iv p0, iv p1, iv (0 : Int32), iv (0 : Int32), rv aE, rv aE, iv (own_sh aS aE aE), iv (own_sh aS aE aE), iv (0 : Int32)] [(.int (0 : Int32)), (.int (own_sh aS aE aE))])) t → Steps p.tables e below (s₁.setTop (entryFrame m #[(.int p0), (.int p1)] maxLocals)) t := by
        intro t kt
        refine pre9 _ ?_
        show Steps p.tables e below (T8.setTop (mkF m 67 #[iv p0, iv p1, iv (0 : Int32), iv (0 : Int32), rv aE, rv aE, iv (own_sh aS aE aE), .unset, .unset] [(.ref aE), (.ref aE)])) _
        refine st10.trans ?_
        show Steps p.tables e below (T10.setTop (mkF m 70 #[iv p0, iv p1, iv (0 : Int32), iv (0 : Int32), rv aE, rv aE, iv (own_sh aS aE aE), .unset, .unset] [(.int (own_sh aS aE aE))])) _
        refine XS.istore X10.here hx rfl (hb hby at_70) rfl (l' := #[iv p0, iv p1, iv (0 : Int32), iv (0 : Int32), rv aE, rv aE, iv (own_sh aS aE aE), iv (own_sh aS aE aE), .unset]) rfl ?_
        show Steps p.tables e below (T10.setTop (mkF m 72 #[iv p0, iv p1, iv (0 : Int32), iv (0 : Int32), rv aE, rv aE, iv (own_sh aS aE aE), iv (own_sh aS aE aE), .unset] [])) _
        refine XS.iloadN X10.here hx rfl (hb hby at_72) rfl ?_
        show Steps p.tables e below (T10.setTop (mkF m 73 #[iv p0, iv p1, iv (0 : Int32), iv (0 : Int32), rv aE, rv aE, iv (own_sh aS aE aE), iv (own_sh aS aE aE), .unset] [(.int (0 : Int32))])) _
        refine XS.ifYes X10.here hx rfl (pc0 := 73) (pc' := 92) rfl (hb hby at_73) rfl ((if0 _ _).trans (teq (by decide)).1) (by decide) (by decide) ?_
        show Steps p.tables e below (T10.setTop (mkF m 92 #[iv p0, iv p1, iv (0 : Int32), iv (0 : Int32), rv aE, rv aE, iv (own_sh aS aE aE), iv (own_sh aS aE aE), .unset] [])) _
        refine XS.iconst X10.here hx rfl (hb hby at_92) ?_
        show Steps p.tables e below (T10.setTop (mkF m 93 #[iv p0, iv p1, iv (0 : Int32), iv (0 : Int32), rv aE, rv aE, iv (own_sh aS aE aE), iv (own_sh aS aE aE), .unset] [(.int (0 : Int32))])) _
        refine XS.istore X10.here hx rfl (hb hby at_93) rfl (l' := #[iv p0, iv p1, iv (0 : Int32), iv (0 : Int32), rv aE, rv aE, iv (own_sh aS aE aE), iv (own_sh aS aE aE), iv (0 : Int32)]) rfl ?_
        show Steps p.tables e below (T10.setTop (mkF m 95 #[iv p0, iv p1, iv (0 : Int32), iv (0 : Int32), rv aE, rv aE, iv (own_sh aS aE aE), iv (own_sh aS aE aE), iv (0 : Int32)] [])) _
        refine XS.iload X10.here hx rfl (hb hby at_95) rfl ?_
        show Steps p.tables e below (T10.setTop (mkF m 97 #[iv p0, iv p1, iv (0 : Int32), iv (0 : Int32), rv aE, rv aE, iv (own_sh aS aE aE), iv (own_sh aS aE aE), iv (0 : Int32)] [(.int (own_sh aS aE aE))])) _
        refine XS.iload X10.here hx rfl (hb hby at_97) rfl ?_
        exact kt
      have hc99_11 : (own_sh aS aE aE) = (0 : Int32) := by simp [own_sh, hne]
      have pre13 : ∀ t, Steps p.tables e below (T10.setTop (mkF m 114 #[iv p0, iv p1, iv (0 : Int32), iv (0 : Int32), rv aE, rv aE, iv (own_sh aS aE aE), iv (own_sh aS aE aE), iv (0 : Int32)] [(.int (1 : Int32))])) t → Steps p.tables e below (s₁.setTop (entryFrame m #[(.int p0), (.int p1)] maxLocals)) t := by
        intro t kt
        refine pre12 _ ?_
        show Steps p.tables e below (T10.setTop (mkF m 99 #[iv p0, iv p1, iv (0 : Int32), iv (0 : Int32), rv aE, rv aE, iv (own_sh aS aE aE), iv (own_sh aS aE aE), iv (0 : Int32)] [(.int (0 : Int32)), (.int (own_sh aS aE aE))])) _
        refine XS.icmpNo X10.here hx rfl (hb hby at_99) rfl (teq hc99_11).2 ?_
        show Steps p.tables e below (T10.setTop (mkF m 102 #[iv p0, iv p1, iv (0 : Int32), iv (0 : Int32), rv aE, rv aE, iv (own_sh aS aE aE), iv (own_sh aS aE aE), iv (0 : Int32)] [])) _
        refine XS.iload X10.here hx rfl (hb hby at_102) rfl ?_
        show Steps p.tables e below (T10.setTop (mkF m 104 #[iv p0, iv p1, iv (0 : Int32), iv (0 : Int32), rv aE, rv aE, iv (own_sh aS aE aE), iv (own_sh aS aE aE), iv (0 : Int32)] [(.int (own_sh aS aE aE))])) _
        refine XS.iload X10.here hx rfl (hb hby at_104) rfl ?_
        show Steps p.tables e below (T10.setTop (mkF m 106 #[iv p0, iv p1, iv (0 : Int32), iv (0 : Int32), rv aE, rv aE, iv (own_sh aS aE aE), iv (own_sh aS aE aE), iv (0 : Int32)] [(.int (0 : Int32)), (.int (own_sh aS aE aE))])) _
        refine XS.icmpNo X10.here hx rfl (hb hby at_106) rfl (teq hc99_11).2 ?_
        show Steps p.tables e below (T10.setTop (mkF m 109 #[iv p0, iv p1, iv (0 : Int32), iv (0 : Int32), rv aE, rv aE, iv (own_sh aS aE aE), iv (own_sh aS aE aE), iv (0 : Int32)] [])) _
        refine XS.iconst X10.here hx rfl (hb hby at_109) ?_
        show Steps p.tables e below (T10.setTop (mkF m 110 #[iv p0, iv p1, iv (0 : Int32), iv (0 : Int32), rv aE, rv aE, iv (own_sh aS aE aE), iv (own_sh aS aE aE), iv (0 : Int32)] [(.int (1 : Int32))])) _
        refine XS.goto X10.here hx rfl (pc0 := 110) (pc' := 114) rfl (hb hby at_110) (by decide) (by decide) ?_
        exact kt
      obtain ⟨fs, hr, hrun, hended, hW, hsame⟩ := X10.leave (v := some (.int (1 : Int32))) (fun h => by rw [Bd.returns] at h; cases h)
      refine ⟨_, _, pre13 _ ?_, hrun, hended, _, _, rfl, ?_, ⟨_, rfl⟩, hW, hsame.mono (by decide) (by decide)⟩
      · show Steps p.tables e below (T10.setTop (mkF m 114 #[iv p0, iv p1, iv (0 : Int32), iv (0 : Int32), rv aE, rv aE, iv (own_sh aS aE aE), iv (own_sh aS aE aE), iv (0 : Int32)] [(.int (1 : Int32))])) _
        exact retN X10 hx (t := .boolean) Bd.returns (by simp) (hb hby at_114) hr
      · show Q0 Z p0 p1 aS aE h0 n0 _ T10.heap _
        rw [hh10]
        exact ⟨rfl, N10⟩
    · have pre14 : ∀ t, Steps p.tables e below (s₁.setTop (mkF m 34 #[iv p0, iv p1, iv (0 : Int32), iv (1 : Int32), .unset, .unset, .unset, .unset, .unset] [])) t → Steps p.tables e below (s₁.setTop (entryFrame m #[(.int p0), (.int p1)] maxLocals)) t := by
        intro t kt
        refine pre2 _ ?_
        show Steps p.tables e below (s₁.setTop (mkF m 15 #[iv p0, iv p1, iv (0 : Int32), .unset, .unset, .unset, .unset, .unset, .unset] [(.int (p1 &&& (1 : Int32)))])) _
        refine XS.ifNo X0.here hx rfl (hb hby at_15) rfl ((if0 _ _).trans (feq hc15).1) ?_
        show Steps p.tables e below (s₁.setTop (mkF m 18 #[iv p0, iv p1, iv (0 : Int32), .unset, .unset, .unset, .unset, .unset, .unset] [])) _
        refine XS.iconst X0.here hx rfl (hb hby at_18) ?_
        show Steps p.tables e below (s₁.setTop (mkF m 19 #[iv p0, iv p1, iv (0 : Int32), .unset, .unset, .unset, .unset, .unset, .unset] [(.int (1 : Int32))])) _
        refine XS.goto X0.here hx rfl (pc0 := 19) (pc' := 23) rfl (hb hby at_19) (by decide) (by decide) ?_
        show Steps p.tables e below (s₁.setTop (mkF m 23 #[iv p0, iv p1, iv (0 : Int32), .unset, .unset, .unset, .unset, .unset, .unset] [(.int (1 : Int32))])) _
        refine XS.istoreN X0.here hx rfl (hb hby at_23) rfl (l' := #[iv p0, iv p1, iv (0 : Int32), iv (1 : Int32), .unset, .unset, .unset, .unset, .unset]) rfl ?_
        show Steps p.tables e below (s₁.setTop (mkF m 24 #[iv p0, iv p1, iv (0 : Int32), iv (1 : Int32), .unset, .unset, .unset, .unset, .unset] [])) _
        refine XS.iloadN X0.here hx rfl (hb hby at_24) rfl ?_
        show Steps p.tables e below (s₁.setTop (mkF m 25 #[iv p0, iv p1, iv (0 : Int32), iv (1 : Int32), .unset, .unset, .unset, .unset, .unset] [(.int (0 : Int32))])) _
        refine XS.ifYes X0.here hx rfl (pc0 := 25) (pc' := 34) rfl (hb hby at_25) rfl ((if0 _ _).trans (teq (by decide)).1) (by decide) (by decide) ?_
        exact kt
      obtain ⟨T15, X15, e15, st15⟩ := getS2 X0 hx hZ hown (host := "") (Or.inl (hw _ (List.mem_of_getElem? (i := 0) rfl))) Via.refl e0 (S_EXCLUSIVE.ext (O0.keep (Keep.refl h0 []) all0).2) (g := (mkF m 34 #[iv p0, iv p1, iv (0 : Int32), iv (1 : Int32), .unset, .unset, .unset, .unset, .unset] [])) rfl (hb hby at_34)
      have pre16 : ∀ t, Steps p.tables e below (T15.setTop (mkF m 43 #[iv p0, iv p1, iv (0 : Int32), iv (1 : Int32), rv aE, .unset, .unset, .unset, .unset] [])) t → Steps p.tables e below (s₁.setTop (entryFrame m #[(.int p0), (.int p1)] maxLocals)) t := by
        intro t kt
        refine pre14 _ ?_
        show Steps p.tables e below (s₁.setTop (mkF m 34 #[iv p0, iv p1, iv (0 : Int32), iv (1 : Int32), .unset, .unset, .unset, .unset, .unset] [])) _
        refine st15 _ ?_
        show Steps p.tables e below (T15.setTop (mkF m 37 #[iv p0, iv p1, iv (0 : Int32), iv (1 : Int32), .unset, .unset, .unset, .unset, .unset] [(.ref aE)])) _
        refine XS.astore X15.here hx rfl (hb hby at_37) rfl rfl (l' := #[iv p0, iv p1, iv (0 : Int32), iv (1 : Int32), rv aE, .unset, .unset, .unset, .unset]) rfl ?_
        show Steps p.tables e below (T15.setTop (mkF m 39 #[iv p0, iv p1, iv (0 : Int32), iv (1 : Int32), rv aE, .unset, .unset, .unset, .unset] [])) _
        refine XS.iloadN X15.here hx rfl (hb hby at_39) rfl ?_
        show Steps p.tables e below (T15.setTop (mkF m 40 #[iv p0, iv p1, iv (0 : Int32), iv (1 : Int32), rv aE, .unset, .unset, .unset, .unset] [(.int (1 : Int32))])) _
        refine XS.ifNo X15.here hx rfl (hb hby at_40) rfl ((if0 _ _).trans (feq (by decide)).1) ?_
        exact kt
      obtain ⟨T17, X17, e17, st17⟩ := getS2 X15 hx hZ hown (host := "") (Or.inl (hw _ (List.mem_of_getElem? (i := 3) rfl))) Via.refl e15 (S_SHARED.ext (O0.keep (Keep.refl h0 []) all0).2) (g := (mkF m 43 #[iv p0, iv p1, iv (0 : Int32), iv (1 : Int32), rv aE, .unset, .unset, .unset, .unset] [])) rfl (hb hby at_43)
      have pre18 : ∀ t, Steps p.tables e below (T17.setTop (mkF m 58 #[iv p0, iv p1, iv (0 : Int32), iv (1 : Int32), rv aE, rv aS, .unset, .unset, .unset] [(.ref aS), (.ref aE)])) t → Steps p.tables e below (s₁.setTop (entryFrame m #[(.int p0), (.int p1)] maxLocals)) t := by
        intro t kt
        refine pre16 _ ?_
        show Steps p.tables e below (T15.setTop (mkF m 43 #[iv p0, iv p1, iv (0 : Int32), iv (1 : Int32), rv aE, .unset, .unset, .unset, .unset] [])) _
        refine st17 _ ?_
        show Steps p.tables e below (T17.setTop (mkF m 46 #[iv p0, iv p1, iv (0 : Int32), iv (1 : Int32), rv aE, .unset, .unset, .unset, .unset] [(.ref aS)])) _
        refine XS.goto X17.here hx rfl (pc0 := 46) (pc' := 52) rfl (hb hby at_46) (by decide) (by decide) ?_
        show Steps p.tables e below (T17.setTop (mkF m 52 #[iv p0, iv p1, iv (0 : Int32), iv (1 : Int32), rv aE, .unset, .unset, .unset, .unset] [(.ref aS)])) _
        refine XS.astore X17.here hx rfl (hb hby at_52) rfl rfl (l' := #[iv p0, iv p1, iv (0 : Int32), iv (1 : Int32), rv aE, rv aS, .unset, .unset, .unset]) rfl ?_
        show Steps p.tables e below (T17.setTop (mkF m 54 #[iv p0, iv p1, iv (0 : Int32), iv (1 : Int32), rv aE, rv aS, .unset, .unset, .unset] [])) _
        refine XS.aload X17.here hx rfl (hb hby at_54) rfl rfl ?_
        show Steps p.tables e below (T17.setTop (mkF m 56 #[iv p0, iv p1, iv (0 : Int32), iv (1 : Int32), rv aE, rv aS, .unset, .unset, .unset] [(.ref aE)])) _
        refine XS.aload X17.here hx rfl (hb hby at_56) rfl rfl ?_
        exact kt
      obtain ⟨cq19, kq19, q19a, q19b, q19c⟩ := isOf hZ e17 (E_aE.ext (O0.keep (Keep.refl h0 []) all0).2)
      obtain ⟨_, _, ⟨T19, L19, k19, n19⟩, -, X19, ⟨Lc19, hQ19, l19, y19, z19⟩, st19⟩ := X17.virtualBack hx (y := (⟨"com/example/ereikoussa/ereikoussa/lock/LockMode", "sharesWith", "(Lcom/example/ereikoussa/ereikoussa/lock/LockMode;)Z"⟩ : MethodName)) (z := (⟨"com/example/ereikoussa/ereikoussa/lock/LockMode", "sharesWith", "(Lcom/example/ereikoussa/ereikoussa/lock/LockMode;)Z"⟩ : MethodName)) hown (mvT hZ (hw _ (List.mem_of_getElem? (i := 5) rfl))) (mvT hZ (hw _ (List.mem_of_getElem? (i := 6) rfl))) (notFace_of_selects (args := #[]) (mvT hZ (hw _ (List.mem_of_getElem? (i := 8) rfl)))) (mvT hZ (hw _ (List.mem_of_getElem? (i := 8) rfl))) (mvT hZ (hw _ (List.mem_of_getElem? (i := 7) rfl))) (by decide) (backOf (W := 0) (rm1 l Z a0 hw [] aE aS aS h0 n0 (Nat.le_trans Z0 (Keep.refl h0 []).1) (O0.keep (Keep.refl h0 []) all0) S_SHARED) hZ (hw _ (List.mem_of_getElem? (i := 9) rfl)) (hw _ (List.mem_of_getElem? (i := 1) rfl)) (by decide) (by decide)) q19a q19c (g := (mkF m 58 #[iv p0, iv p1, iv (0 : Int32), iv (1 : Int32), rv aE, rv aS, .unset, .unset, .unset] [(.ref aS), (.ref aE)])) rfl (by rw [hml]; rfl) (Steps.refl _) (argsL := [(.ref aS)]) (rest := []) (lenOf pd2 rfl) rfl (by show 2 * 0 + _ ≤ _; exact Nat.le_of_eq rfl) (hb hby at_58) (fun _ _ => ⟨rfl, e17, (by decide : 0 + 0 ≤ _), (by decide : 0 + 0 ≤ _)⟩)
      dsimp only [Pt.U, Pt.locs, Pt.cells, Pt.slots] at X19 l19 y19 z19 st19 hQ19
      subst l19 y19 z19
      obtain ⟨rfl, N19q, hh19⟩ := hQ19
      have N19 := Fr.app N0 N19q
      have pre20 : ∀ t, Steps p.tables e below (T19.setTop (mkF m 67 #[iv p0, iv p1, iv (0 : Int32), iv (1 : Int32), rv aE, rv aS, iv (own_sh aS aE aS), .unset, .unset] [(.ref aE), (.ref aS)])) t → Steps p.tables e below (s₁.setTop (entryFrame m #[(.int p0), (.int p1)] maxLocals)) t := by
        intro t kt
        refine pre18 _ ?_
        show Steps p.tables e below (T17.setTop (mkF m 58 #[iv p0, iv p1, iv (0 : Int32), iv (1 : Int32), rv aE, rv aS, .unset, .unset, .unset] [(.ref aS), (.ref aE)])) _
        refine st19.trans ?_
        show Steps p.tables e below (T19.setTop (mkF m 61 #[iv p0, iv p1, iv (0 : Int32), iv (1 : Int32), rv aE, rv aS, .unset, .unset, .unset] [(.int (own_sh aS aE aS))])) _
        refine XS.istore X19.here hx rfl (hb hby at_61) rfl (l' := #[iv p0, iv p1, iv (0 : Int32), iv (1 : Int32), rv aE, rv aS, iv (own_sh aS aE aS), .unset, .unset]) rfl ?_
        show Steps p.tables e below (T19.setTop (mkF m 63 #[iv p0, iv p1, iv (0 : Int32), iv (1 : Int32), rv aE, rv aS, iv (own_sh aS aE aS), .unset, .unset] [])) _
        refine XS.aload X19.here hx rfl (hb hby at_63) rfl rfl ?_
        show Steps p.tables e below (T19.setTop (mkF m 65 #[iv p0, iv p1, iv (0 : Int32), iv (1 : Int32), rv aE, rv aS, iv (own_sh aS aE aS), .unset, .unset] [(.ref aS)])) _
        refine XS.aload X19.here hx rfl (hb hby at_65) rfl rfl ?_
        exact kt
      obtain ⟨cq21, kq21, q21a, q21b, q21c⟩ := isOf hZ hh19 (E_aS.ext (O0.keep (Keep.refl h0 []) all0).2)
      obtain ⟨_, _, ⟨T21, L21, k21, n21⟩, -, X21, ⟨Lc21, hQ21, l21, y21, z21⟩, st21⟩ := X19.virtualBack hx (y := (⟨"com/example/ereikoussa/ereikoussa/lock/LockMode", "sharesWith", "(Lcom/example/ereikoussa/ereikoussa/lock/LockMode;)Z"⟩ : MethodName)) (z := (⟨"com/example/ereikoussa/ereikoussa/lock/LockMode", "sharesWith", "(Lcom/example/ereikoussa/ereikoussa/lock/LockMode;)Z"⟩ : MethodName)) hown (mvT hZ (hw _ (List.mem_of_getElem? (i := 5) rfl))) (mvT hZ (hw _ (List.mem_of_getElem? (i := 6) rfl))) (notFace_of_selects (args := #[]) (mvT hZ (hw _ (List.mem_of_getElem? (i := 8) rfl)))) (mvT hZ (hw _ (List.mem_of_getElem? (i := 8) rfl))) (mvT hZ (hw _ (List.mem_of_getElem? (i := 7) rfl))) (by decide) (backOf (W := 0) (rm1 l Z a0 hw [] aS aE aS h0 n0 (Nat.le_trans Z0 (Keep.refl h0 []).1) (O0.keep (Keep.refl h0 []) all0) S_SHARED) hZ (hw _ (List.mem_of_getElem? (i := 9) rfl)) (hw _ (List.mem_of_getElem? (i := 1) rfl)) (by decide) (by decide)) q21a q21c (g := (mkF m 67 #[iv p0, iv p1, iv (0 : Int32), iv (1 : Int32), rv aE, rv aS, iv (own_sh aS aE aS), .unset, .unset] [(.ref aE), (.ref aS)])) rfl (by rw [hml]; rfl) (Steps.refl _) (argsL := [(.ref aE)]) (rest := []) (lenOf pd2 rfl) rfl (by show 2 * 0 + _ ≤ _; exact Nat.le_of_eq rfl) (hb hby at_67) (fun _ _ => ⟨rfl, hh19, (by decide : 0 + 0 ≤ _), (by decide : 0 + 0 ≤ _)⟩)
      dsimp only [Pt.U, Pt.locs, Pt.cells, Pt.slots] at X21 l21 y21 z21 st21 hQ21
      subst l21 y21 z21
      obtain ⟨rfl, N21q, hh21⟩ := hQ21
      have N21 := Fr.app N19 N21q
      have pre23 : ∀ t, Steps p.tables e below (T21.setTop (mkF m 99 #[iv p0, iv p1, iv (0 : Int32), iv (1 : Int32), rv aE, rv aS, iv (own_sh aS aE aS), iv (own_sh aS aS aE), iv (0 : Int32)] [(.int (0 : Int32)), (.int (own_sh aS aE aS))])) t → Steps p.tables e below (s₁.setTop (entryFrame m #[(.int p0), (.int p1)] maxLocals)) t := by
        intro t kt
        refine pre20 _ ?_
        show Steps p.tables e below (T19.setTop (mkF m 67 #[iv p0, iv p1, iv (0 : Int32), iv (1 : Int32), rv aE, rv aS, iv (own_sh aS aE aS), .unset, .unset] [(.ref aE), (.ref aS)])) _
        refine st21.trans ?_
        show Steps p.tables e below (T21.setTop (mkF m 70 #[iv p0, iv p1, iv (0 : Int32), iv (1 : Int32), rv aE, rv aS, iv (own_sh aS aE aS), .unset, .unset] [(.int (own_sh aS aS aE))])) _
        refine XS.istore X21.here hx rfl (hb hby at_70) rfl (l' := #[iv p0, iv p1, iv (0 : Int32), iv (1 : Int32), rv aE, rv aS, iv (own_sh aS aE aS), iv (own_sh aS aS aE), .unset]) rfl ?_
        show Steps p.tables e below (T21.setTop (mkF m 72 #[iv p0, iv p1, iv (0 : Int32), iv (1 : Int32), rv aE, rv aS, iv (own_sh aS aE aS), iv (own_sh aS aS aE), .unset] [])) _
        refine XS.iloadN X21.here hx rfl (hb hby at_72) rfl ?_
        show Steps p.tables e below (T21.setTop (mkF m 73 #[iv p0, iv p1, iv (0 : Int32), iv (1 : Int32), rv aE, rv aS, iv (own_sh aS aE aS), iv (own_sh aS aS aE), .unset] [(.int (0 : Int32))])) _
        refine XS.ifYes X21.here hx rfl (pc0 := 73) (pc' := 92) rfl (hb hby at_73) rfl ((if0 _ _).trans (teq (by decide)).1) (by decide) (by decide) ?_
        show Steps p.tables e below (T21.setTop (mkF m 92 #[iv p0, iv p1, iv (0 : Int32), iv (1 : Int32), rv aE, rv aS, iv (own_sh aS aE aS), iv (own_sh aS aS aE), .unset] [])) _
        refine XS.iconst X21.here hx rfl (hb hby at_92) ?_
        show Steps p.tables e below (T21.setTop (mkF m 93 #[iv p0, iv p1, iv (0 : Int32), iv (1 : Int32), rv aE, rv aS, iv (own_sh aS aE aS), iv (own_sh aS aS aE), .unset] [(.int (0 : Int32))])) _
        refine XS.istore X21.here hx rfl (hb hby at_93) rfl (l' := #[iv p0, iv p1, iv (0 : Int32), iv (1 : Int32), rv aE, rv aS, iv (own_sh aS aE aS), iv (own_sh aS aS aE), iv (0 : Int32)]) rfl ?_
        show Steps p.tables e below (T21.setTop (mkF m 95 #[iv p0, iv p1, iv (0 : Int32), iv (1 : Int32), rv aE, rv aS, iv (own_sh aS aE aS), iv (own_sh aS aS aE), iv (0 : Int32)] [])) _
        refine XS.iload X21.here hx rfl (hb hby at_95) rfl ?_
        show Steps p.tables e below (T21.setTop (mkF m 97 #[iv p0, iv p1, iv (0 : Int32), iv (1 : Int32), rv aE, rv aS, iv (own_sh aS aE aS), iv (own_sh aS aS aE), iv (0 : Int32)] [(.int (own_sh aS aE aS))])) _
        refine XS.iload X21.here hx rfl (hb hby at_97) rfl ?_
        exact kt
      have hc99_22 : (own_sh aS aE aS) = (0 : Int32) := by simp [own_sh, hne]
      have pre25 : ∀ t, Steps p.tables e below (T21.setTop (mkF m 106 #[iv p0, iv p1, iv (0 : Int32), iv (1 : Int32), rv aE, rv aS, iv (own_sh aS aE aS), iv (own_sh aS aS aE), iv (0 : Int32)] [(.int (0 : Int32)), (.int (own_sh aS aS aE))])) t → Steps p.tables e below (s₁.setTop (entryFrame m #[(.int p0), (.int p1)] maxLocals)) t := by
        intro t kt
        refine pre23 _ ?_
        show Steps p.tables e below (T21.setTop (mkF m 99 #[iv p0, iv p1, iv (0 : Int32), iv (1 : Int32), rv aE, rv aS, iv (own_sh aS aE aS), iv (own_sh aS aS aE), iv (0 : Int32)] [(.int (0 : Int32)), (.int (own_sh aS aE aS))])) _
        refine XS.icmpNo X21.here hx rfl (hb hby at_99) rfl (teq hc99_22).2 ?_
        show Steps p.tables e below (T21.setTop (mkF m 102 #[iv p0, iv p1, iv (0 : Int32), iv (1 : Int32), rv aE, rv aS, iv (own_sh aS aE aS), iv (own_sh aS aS aE), iv (0 : Int32)] [])) _
        refine XS.iload X21.here hx rfl (hb hby at_102) rfl ?_
        show Steps p.tables e below (T21.setTop (mkF m 104 #[iv p0, iv p1, iv (0 : Int32), iv (1 : Int32), rv aE, rv aS, iv (own_sh aS aE aS), iv (own_sh aS aS aE), iv (0 : Int32)] [(.int (own_sh aS aS aE))])) _
        refine XS.iload X21.here hx rfl (hb hby at_104) rfl ?_
        exact kt
      have hc106_24 : (own_sh aS aS aE) = (0 : Int32) := by simp [own_sh, hne]
      have pre26 : ∀ t, Steps p.tables e below (T21.setTop (mkF m 114 #[iv p0, iv p1, iv (0 : Int32), iv (1 : Int32), rv aE, rv aS, iv (own_sh aS aE aS), iv (own_sh aS aS aE), iv (0 : Int32)] [(.int (1 : Int32))])) t → Steps p.tables e below (s₁.setTop (entryFrame m #[(.int p0), (.int p1)] maxLocals)) t := by
        intro t kt
        refine pre25 _ ?_
        show Steps p.tables e below (T21.setTop (mkF m 106 #[iv p0, iv p1, iv (0 : Int32), iv (1 : Int32), rv aE, rv aS, iv (own_sh aS aE aS), iv (own_sh aS aS aE), iv (0 : Int32)] [(.int (0 : Int32)), (.int (own_sh aS aS aE))])) _
        refine XS.icmpNo X21.here hx rfl (hb hby at_106) rfl (teq hc106_24).2 ?_
        show Steps p.tables e below (T21.setTop (mkF m 109 #[iv p0, iv p1, iv (0 : Int32), iv (1 : Int32), rv aE, rv aS, iv (own_sh aS aE aS), iv (own_sh aS aS aE), iv (0 : Int32)] [])) _
        refine XS.iconst X21.here hx rfl (hb hby at_109) ?_
        show Steps p.tables e below (T21.setTop (mkF m 110 #[iv p0, iv p1, iv (0 : Int32), iv (1 : Int32), rv aE, rv aS, iv (own_sh aS aE aS), iv (own_sh aS aS aE), iv (0 : Int32)] [(.int (1 : Int32))])) _
        refine XS.goto X21.here hx rfl (pc0 := 110) (pc' := 114) rfl (hb hby at_110) (by decide) (by decide) ?_
        exact kt
      obtain ⟨fs, hr, hrun, hended, hW, hsame⟩ := X21.leave (v := some (.int (1 : Int32))) (fun h => by rw [Bd.returns] at h; cases h)
      refine ⟨_, _, pre26 _ ?_, hrun, hended, _, _, rfl, ?_, ⟨_, rfl⟩, hW, hsame.mono (by decide) (by decide)⟩
      · show Steps p.tables e below (T21.setTop (mkF m 114 #[iv p0, iv p1, iv (0 : Int32), iv (1 : Int32), rv aE, rv aS, iv (own_sh aS aE aS), iv (own_sh aS aS aE), iv (0 : Int32)] [(.int (1 : Int32))])) _
        exact retN X21 hx (t := .boolean) Bd.returns (by simp) (hb hby at_114) hr
      · show Q0 Z p0 p1 aS aE h0 n0 _ T21.heap _
        rw [hh21]
        exact ⟨rfl, N21⟩
  · have pre27 : ∀ t, Steps p.tables e below (s₁.setTop (mkF m 15 #[iv p0, iv p1, iv (1 : Int32), .unset, .unset, .unset, .unset, .unset, .unset] [(.int (p1 &&& (1 : Int32)))])) t → Steps p.tables e below (s₁.setTop (entryFrame m #[(.int p0), (.int p1)] maxLocals)) t := by
      intro t kt
      refine pre1 _ ?_
      show Steps p.tables e below (s₁.setTop (mkF m 3 #[iv p0, iv p1, .unset, .unset, .unset, .unset, .unset, .unset, .unset] [(.int (p0 &&& (1 : Int32)))])) _
      refine XS.ifNo X0.here hx rfl (hb hby at_3) rfl ((if0 _ _).trans (feq hc3).1) ?_
      show Steps p.tables e below (s₁.setTop (mkF m 6 #[iv p0, iv p1, .unset, .unset, .unset, .unset, .unset, .unset, .unset] [])) _
      refine XS.iconst X0.here hx rfl (hb hby at_6) ?_
      show Steps p.tables e below (s₁.setTop (mkF m 7 #[iv p0, iv p1, .unset, .unset, .unset, .unset, .unset, .unset, .unset] [(.int (1 : Int32))])) _
      refine XS.goto X0.here hx rfl (pc0 := 7) (pc' := 11) rfl (hb hby at_7) (by decide) (by decide) ?_
      show Steps p.tables e below (s₁.setTop (mkF m 11 #[iv p0, iv p1, .unset, .unset, .unset, .unset, .unset, .unset, .unset] [(.int (1 : Int32))])) _
      refine XS.istoreN X0.here hx rfl (hb hby at_11) rfl (l' := #[iv p0, iv p1, iv (1 : Int32), .unset, .unset, .unset, .unset, .unset, .unset]) rfl ?_
      show Steps p.tables e below (s₁.setTop (mkF m 12 #[iv p0, iv p1, iv (1 : Int32), .unset, .unset, .unset, .unset, .unset, .unset] [])) _
      refine XS.iloadN X0.here hx rfl (hb hby at_12) rfl ?_
      show Steps p.tables e below (s₁.setTop (mkF m 13 #[iv p0, iv p1, iv (1 : Int32), .unset, .unset, .unset, .unset, .unset, .unset] [(.int p1)])) _
      refine XS.iconst X0.here hx rfl (hb hby at_13) ?_
      show Steps p.tables e below (s₁.setTop (mkF m 14 #[iv p0, iv p1, iv (1 : Int32), .unset, .unset, .unset, .unset, .unset, .unset] [(.int (1 : Int32)), (.int p1)])) _
      refine XS.iand X0.here hx rfl (hb hby at_14) rfl ?_
      exact kt
    by_cases hc15 : (p1 &&& (1 : Int32)) = (0 : Int32)
    · have pre28 : ∀ t, Steps p.tables e below (s₁.setTop (mkF m 28 #[iv p0, iv p1, iv (1 : Int32), iv (0 : Int32), .unset, .unset, .unset, .unset, .unset] [])) t → Steps p.tables e below (s₁.setTop (entryFrame m #[(.int p0), (.int p1)] maxLocals)) t := by
        intro t kt
        refine pre27 _ ?_
        show Steps p.tables e below (s₁.setTop (mkF m 15 #[iv p0, iv p1, iv (1 : Int32), .unset, .unset, .unset, .unset, .unset, .unset] [(.int (p1 &&& (1 : Int32)))])) _
        refine XS.ifYes X0.here hx rfl (pc0 := 15) (pc' := 22) rfl (hb hby at_15) rfl ((if0 _ _).trans (teq hc15).1) (by decide) (by decide) ?_
        show Steps p.tables e below (s₁.setTop (mkF m 22 #[iv p0, iv p1, iv (1 : Int32), .unset, .unset, .unset, .unset, .unset, .unset] [])) _
        refine XS.iconst X0.here hx rfl (hb hby at_22) ?_
        show Steps p.tables e below (s₁.setTop (mkF m 23 #[iv p0, iv p1, iv (1 : Int32), .unset, .unset, .unset, .unset, .unset, .unset] [(.int (0 : Int32))])) _
        refine XS.istoreN X0.here hx rfl (hb hby at_23) rfl (l' := #[iv p0, iv p1, iv (1 : Int32), iv (0 : Int32), .unset, .unset, .unset, .unset, .unset]) rfl ?_
        show Steps p.tables e below (s₁.setTop (mkF m 24 #[iv p0, iv p1, iv (1 : Int32), iv (0 : Int32), .unset, .unset, .unset, .unset, .unset] [])) _
        refine XS.iloadN X0.here hx rfl (hb hby at_24) rfl ?_
        show Steps p.tables e below (s₁.setTop (mkF m 25 #[iv p0, iv p1, iv (1 : Int32), iv (0 : Int32), .unset, .unset, .unset, .unset, .unset] [(.int (1 : Int32))])) _
        refine XS.ifNo X0.here hx rfl (hb hby at_25) rfl ((if0 _ _).trans (feq (by decide)).1) ?_
        exact kt
      obtain ⟨T29, X29, e29, st29⟩ := getS2 X0 hx hZ hown (host := "") (Or.inl (hw _ (List.mem_of_getElem? (i := 3) rfl))) Via.refl e0 (S_SHARED.ext (O0.keep (Keep.refl h0 []) all0).2) (g := (mkF m 28 #[iv p0, iv p1, iv (1 : Int32), iv (0 : Int32), .unset, .unset, .unset, .unset, .unset] [])) rfl (hb hby at_28)
      have pre30 : ∀ t, Steps p.tables e below (T29.setTop (mkF m 49 #[iv p0, iv p1, iv (1 : Int32), iv (0 : Int32), rv aS, .unset, .unset, .unset, .unset] [])) t → Steps p.tables e below (s₁.setTop (entryFrame m #[(.int p0), (.int p1)] maxLocals)) t := by
        intro t kt
        refine pre28 _ ?_
        show Steps p.tables e below (s₁.setTop (mkF m 28 #[iv p0, iv p1, iv (1 : Int32), iv (0 : Int32), .unset, .unset, .unset, .unset, .unset] [])) _
        refine st29 _ ?_
        show Steps p.tables e below (T29.setTop (mkF m 31 #[iv p0, iv p1, iv (1 : Int32), iv (0 : Int32), .unset, .unset, .unset, .unset, .unset] [(.ref aS)])) _
        refine XS.goto X29.here hx rfl (pc0 := 31) (pc' := 37) rfl (hb hby at_31) (by decide) (by decide) ?_
        show Steps p.tables e below (T29.setTop (mkF m 37 #[iv p0, iv p1, iv (1 : Int32), iv (0 : Int32), .unset, .unset, .unset, .unset, .unset] [(.ref aS)])) _
        refine XS.astore X29.here hx rfl (hb hby at_37) rfl rfl (l' := #[iv p0, iv p1, iv (1 : Int32), iv (0 : Int32), rv aS, .unset, .unset, .unset, .unset]) rfl ?_
        show Steps p.tables e below (T29.setTop (mkF m 39 #[iv p0, iv p1, iv (1 : Int32), iv (0 : Int32), rv aS, .unset, .unset, .unset, .unset] [])) _
        refine XS.iloadN X29.here hx rfl (hb hby at_39) rfl ?_
        show Steps p.tables e below (T29.setTop (mkF m 40 #[iv p0, iv p1, iv (1 : Int32), iv (0 : Int32), rv aS, .unset, .unset, .unset, .unset] [(.int (0 : Int32))])) _
        refine XS.ifYes X29.here hx rfl (pc0 := 40) (pc' := 49) rfl (hb hby at_40) rfl ((if0 _ _).trans (teq (by decide)).1) (by decide) (by decide) ?_
        exact kt
      obtain ⟨T31, X31, e31, st31⟩ := getS2 X29 hx hZ hown (host := "") (Or.inl (hw _ (List.mem_of_getElem? (i := 0) rfl))) Via.refl e29 (S_EXCLUSIVE.ext (O0.keep (Keep.refl h0 []) all0).2) (g := (mkF m 49 #[iv p0, iv p1, iv (1 : Int32), iv (0 : Int32), rv aS, .unset, .unset, .unset, .unset] [])) rfl (hb hby at_49)
      have pre32 : ∀ t, Steps p.tables e below (T31.setTop (mkF m 58 #[iv p0, iv p1, iv (1 : Int32), iv (0 : Int32), rv aS, rv aE, .unset, .unset, .unset] [(.ref aE), (.ref aS)])) t → Steps p.tables e below (s₁.setTop (entryFrame m #[(.int p0), (.int p1)] maxLocals)) t := by
        intro t kt
        refine pre30 _ ?_
        show Steps p.tables e below (T29.setTop (mkF m 49 #[iv p0, iv p1, iv (1 : Int32), iv (0 : Int32), rv aS, .unset, .unset, .unset, .unset] [])) _
        refine st31 _ ?_
        show Steps p.tables e below (T31.setTop (mkF m 52 #[iv p0, iv p1, iv (1 : Int32), iv (0 : Int32), rv aS, .unset, .unset, .unset, .unset] [(.ref aE)])) _
        refine XS.astore X31.here hx rfl (hb hby at_52) rfl rfl (l' := #[iv p0, iv p1, iv (1 : Int32), iv (0 : Int32), rv aS, rv aE, .unset, .unset, .unset]) rfl ?_
        show Steps p.tables e below (T31.setTop (mkF m 54 #[iv p0, iv p1, iv (1 : Int32), iv (0 : Int32), rv aS, rv aE, .unset, .unset, .unset] [])) _
        refine XS.aload X31.here hx rfl (hb hby at_54) rfl rfl ?_
        show Steps p.tables e below (T31.setTop (mkF m 56 #[iv p0, iv p1, iv (1 : Int32), iv (0 : Int32), rv aS, rv aE, .unset, .unset, .unset] [(.ref aS)])) _
        refine XS.aload X31.here hx rfl (hb hby at_56) rfl rfl ?_
        exact kt
      obtain ⟨cq33, kq33, q33a, q33b, q33c⟩ := isOf hZ e31 (E_aS.ext (O0.keep (Keep.refl h0 []) all0).2)
      obtain ⟨_, _, ⟨T33, L33, k33, n33⟩, -, X33, ⟨Lc33, hQ33, l33, y33, z33⟩, st33⟩ := X31.virtualBack hx (y := (⟨"com/example/ereikoussa/ereikoussa/lock/LockMode", "sharesWith", "(Lcom/example/ereikoussa/ereikoussa/lock/LockMode;)Z"⟩ : MethodName)) (z := (⟨"com/example/ereikoussa/ereikoussa/lock/LockMode", "sharesWith", "(Lcom/example/ereikoussa/ereikoussa/lock/LockMode;)Z"⟩ : MethodName)) hown (mvT hZ (hw _ (List.mem_of_getElem? (i := 5) rfl))) (mvT hZ (hw _ (List.mem_of_getElem? (i := 6) rfl))) (notFace_of_selects (args := #[]) (mvT hZ (hw _ (List.mem_of_getElem? (i := 8) rfl)))) (mvT hZ (hw _ (List.mem_of_getElem? (i := 8) rfl))) (mvT hZ (hw _ (List.mem_of_getElem? (i := 7) rfl))) (by decide) (backOf (W := 0) (rm1 l Z a0 hw [] aS aE aS h0 n0 (Nat.le_trans Z0 (Keep.refl h0 []).1) (O0.keep (Keep.refl h0 []) all0) S_SHARED) hZ (hw _ (List.mem_of_getElem? (i := 9) rfl)) (hw _ (List.mem_of_getElem? (i := 1) rfl)) (by decide) (by decide)) q33a q33c (g := (mkF m 58 #[iv p0, iv p1, iv (1 : Int32), iv (0 : Int32), rv aS, rv aE, .unset, .unset, .unset] [(.ref aE), (.ref aS)])) rfl (by rw [hml]; rfl) (Steps.refl _) (argsL := [(.ref aE)]) (rest := []) (lenOf pd2 rfl) rfl (by show 2 * 0 + _ ≤ _; exact Nat.le_of_eq rfl) (hb hby at_58) (fun _ _ => ⟨rfl, e31, (by decide : 0 + 0 ≤ _), (by decide : 0 + 0 ≤ _)⟩)
      dsimp only [Pt.U, Pt.locs, Pt.cells, Pt.slots] at X33 l33 y33 z33 st33 hQ33
      subst l33 y33 z33
      obtain ⟨rfl, N33q, hh33⟩ := hQ33
      have N33 := Fr.app N0 N33q
      have pre34 : ∀ t, Steps p.tables e below (T33.setTop (mkF m 67 #[iv p0, iv p1, iv (1 : Int32), iv (0 : Int32), rv aS, rv aE, iv (own_sh aS aS aE), .unset, .unset] [(.ref aS), (.ref aE)])) t → Steps p.tables e below (s₁.setTop (entryFrame m #[(.int p0), (.int p1)] maxLocals)) t := by
        intro t kt
        refine pre32 _ ?_
        show Steps p.tables e below (T31.setTop (mkF m 58 #[iv p0, iv p1, iv (1 : Int32), iv (0 : Int32), rv aS, rv aE, .unset, .unset, .unset] [(.ref aE), (.ref aS)])) _
        refine st33.trans ?_
        show Steps p.tables e below (T33.setTop (mkF m 61 #[iv p0, iv p1, iv (1 : Int32), iv (0 : Int32), rv aS, rv aE, .unset, .unset, .unset] [(.int (own_sh aS aS aE))])) _
        refine XS.istore X33.here hx rfl (hb hby at_61) rfl (l' := #[iv p0, iv p1, iv (1 : Int32), iv (0 : Int32), rv aS, rv aE, iv (own_sh aS aS aE), .unset, .unset]) rfl ?_
        show Steps p.tables e below (T33.setTop (mkF m 63 #[iv p0, iv p1, iv (1 : Int32), iv (0 : Int32), rv aS, rv aE, iv (own_sh aS aS aE), .unset, .unset] [])) _
        refine XS.aload X33.here hx rfl (hb hby at_63) rfl rfl ?_
        show Steps p.tables e below (T33.setTop (mkF m 65 #[iv p0, iv p1, iv (1 : Int32), iv (0 : Int32), rv aS, rv aE, iv (own_sh aS aS aE), .unset, .unset] [(.ref aE)])) _
        refine XS.aload X33.here hx rfl (hb hby at_65) rfl rfl ?_
        exact kt
      obtain ⟨cq35, kq35, q35a, q35b, q35c⟩ := isOf hZ hh33 (E_aE.ext (O0.keep (Keep.refl h0 []) all0).2)
      obtain ⟨_, _, ⟨T35, L35, k35, n35⟩, -, X35, ⟨Lc35, hQ35, l35, y35, z35⟩, st35⟩ := X33.virtualBack hx (y := (⟨"com/example/ereikoussa/ereikoussa/lock/LockMode", "sharesWith", "(Lcom/example/ereikoussa/ereikoussa/lock/LockMode;)Z"⟩ : MethodName)) (z := (⟨"com/example/ereikoussa/ereikoussa/lock/LockMode", "sharesWith", "(Lcom/example/ereikoussa/ereikoussa/lock/LockMode;)Z"⟩ : MethodName)) hown (mvT hZ (hw _ (List.mem_of_getElem? (i := 5) rfl))) (mvT hZ (hw _ (List.mem_of_getElem? (i := 6) rfl))) (notFace_of_selects (args := #[]) (mvT hZ (hw _ (List.mem_of_getElem? (i := 8) rfl)))) (mvT hZ (hw _ (List.mem_of_getElem? (i := 8) rfl))) (mvT hZ (hw _ (List.mem_of_getElem? (i := 7) rfl))) (by decide) (backOf (W := 0) (rm1 l Z a0 hw [] aE aS aS h0 n0 (Nat.le_trans Z0 (Keep.refl h0 []).1) (O0.keep (Keep.refl h0 []) all0) S_SHARED) hZ (hw _ (List.mem_of_getElem? (i := 9) rfl)) (hw _ (List.mem_of_getElem? (i := 1) rfl)) (by decide) (by decide)) q35a q35c (g := (mkF m 67 #[iv p0, iv p1, iv (1 : Int32), iv (0 : Int32), rv aS, rv aE, iv (own_sh aS aS aE), .unset, .unset] [(.ref aS), (.ref aE)])) rfl (by rw [hml]; rfl) (Steps.refl _) (argsL := [(.ref aS)]) (rest := []) (lenOf pd2 rfl) rfl (by show 2 * 0 + _ ≤ _; exact Nat.le_of_eq rfl) (hb hby at_67) (fun _ _ => ⟨rfl, hh33, (by decide : 0 + 0 ≤ _), (by decide : 0 + 0 ≤ _)⟩)
      dsimp only [Pt.U, Pt.locs, Pt.cells, Pt.slots] at X35 l35 y35 z35 st35 hQ35
      subst l35 y35 z35
      obtain ⟨rfl, N35q, hh35⟩ := hQ35
      have N35 := Fr.app N33 N35q
      have pre37 : ∀ t, Steps p.tables e below (T35.setTop (mkF m 99 #[iv p0, iv p1, iv (1 : Int32), iv (0 : Int32), rv aS, rv aE, iv (own_sh aS aS aE), iv (own_sh aS aE aS), iv (0 : Int32)] [(.int (0 : Int32)), (.int (own_sh aS aS aE))])) t → Steps p.tables e below (s₁.setTop (entryFrame m #[(.int p0), (.int p1)] maxLocals)) t := by
        intro t kt
        refine pre34 _ ?_
        show Steps p.tables e below (T33.setTop (mkF m 67 #[iv p0, iv p1, iv (1 : Int32), iv (0 : Int32), rv aS, rv aE, iv (own_sh aS aS aE), .unset, .unset] [(.ref aS), (.ref aE)])) _
        refine st35.trans ?_
        show Steps p.tables e below (T35.setTop (mkF m 70 #[iv p0, iv p1, iv (1 : Int32), iv (0 : Int32), rv aS, rv aE, iv (own_sh aS aS aE), .unset, .unset] [(.int (own_sh aS aE aS))])) _
        refine XS.istore X35.here hx rfl (hb hby at_70) rfl (l' := #[iv p0, iv p1, iv (1 : Int32), iv (0 : Int32), rv aS, rv aE, iv (own_sh aS aS aE), iv (own_sh aS aE aS), .unset]) rfl ?_
        show Steps p.tables e below (T35.setTop (mkF m 72 #[iv p0, iv p1, iv (1 : Int32), iv (0 : Int32), rv aS, rv aE, iv (own_sh aS aS aE), iv (own_sh aS aE aS), .unset] [])) _
        refine XS.iloadN X35.here hx rfl (hb hby at_72) rfl ?_
        show Steps p.tables e below (T35.setTop (mkF m 73 #[iv p0, iv p1, iv (1 : Int32), iv (0 : Int32), rv aS, rv aE, iv (own_sh aS aS aE), iv (own_sh aS aE aS), .unset] [(.int (1 : Int32))])) _
        refine XS.ifNo X35.here hx rfl (hb hby at_73) rfl ((if0 _ _).trans (feq (by decide)).1) ?_
        show Steps p.tables e below (T35.setTop (mkF m 76 #[iv p0, iv p1, iv (1 : Int32), iv (0 : Int32), rv aS, rv aE, iv (own_sh aS aS aE), iv (own_sh aS aE aS), .unset] [])) _
        refine XS.iloadN X35.here hx rfl (hb hby at_76) rfl ?_
        show Steps p.tables e below (T35.setTop (mkF m 77 #[iv p0, iv p1, iv (1 : Int32), iv (0 : Int32), rv aS, rv aE, iv (own_sh aS aS aE), iv (own_sh aS aE aS), .unset] [(.int (0 : Int32))])) _
        refine XS.ifYes X35.here hx rfl (pc0 := 77) (pc' := 86) rfl (hb hby at_77) rfl ((if0 _ _).trans (teq (by decide)).1) (by decide) (by decide) ?_
        show Steps p.tables e below (T35.setTop (mkF m 86 #[iv p0, iv p1, iv (1 : Int32), iv (0 : Int32), rv aS, rv aE, iv (own_sh aS aS aE), iv (own_sh aS aE aS), .unset] [])) _
        refine XS.iconst X35.here hx rfl (hb hby at_86) ?_
        show Steps p.tables e below (T35.setTop (mkF m 87 #[iv p0, iv p1, iv (1 : Int32), iv (0 : Int32), rv aS, rv aE, iv (own_sh aS aS aE), iv (own_sh aS aE aS), .unset] [(.int (0 : Int32))])) _
        refine XS.istore X35.here hx rfl (hb hby at_87) rfl (l' := #[iv p0, iv p1, iv (1 : Int32), iv (0 : Int32), rv aS, rv aE, iv (own_sh aS aS aE), iv (own_sh aS aE aS), iv (0 : Int32)]) rfl ?_
        show Steps p.tables e below (T35.setTop (mkF m 89 #[iv p0, iv p1, iv (1 : Int32), iv (0 : Int32), rv aS, rv aE, iv (own_sh aS aS aE), iv (own_sh aS aE aS), iv (0 : Int32)] [])) _
        refine XS.goto X35.here hx rfl (pc0 := 89) (pc' := 95) rfl (hb hby at_89) (by decide) (by decide) ?_
        show Steps p.tables e below (T35.setTop (mkF m 95 #[iv p0, iv p1, iv (1 : Int32), iv (0 : Int32), rv aS, rv aE, iv (own_sh aS aS aE), iv (own_sh aS aE aS), iv (0 : Int32)] [])) _
        refine XS.iload X35.here hx rfl (hb hby at_95) rfl ?_
        show Steps p.tables e below (T35.setTop (mkF m 97 #[iv p0, iv p1, iv (1 : Int32), iv (0 : Int32), rv aS, rv aE, iv (own_sh aS aS aE), iv (own_sh aS aE aS), iv (0 : Int32)] [(.int (own_sh aS aS aE))])) _
        refine XS.iload X35.here hx rfl (hb hby at_97) rfl ?_
        exact kt
      have hc99_36 : (own_sh aS aS aE) = (0 : Int32) := by simp [own_sh, hne]
      have pre39 : ∀ t, Steps p.tables e below (T35.setTop (mkF m 106 #[iv p0, iv p1, iv (1 : Int32), iv (0 : Int32), rv aS, rv aE, iv (own_sh aS aS aE), iv (own_sh aS aE aS), iv (0 : Int32)] [(.int (0 : Int32)), (.int (own_sh aS aE aS))])) t → Steps p.tables e below (s₁.setTop (entryFrame m #[(.int p0), (.int p1)] maxLocals)) t := by
        intro t kt
        refine pre37 _ ?_
        show Steps p.tables e below (T35.setTop (mkF m 99 #[iv p0, iv p1, iv (1 : Int32), iv (0 : Int32), rv aS, rv aE, iv (own_sh aS aS aE), iv (own_sh aS aE aS), iv (0 : Int32)] [(.int (0 : Int32)), (.int (own_sh aS aS aE))])) _
        refine XS.icmpNo X35.here hx rfl (hb hby at_99) rfl (teq hc99_36).2 ?_
        show Steps p.tables e below (T35.setTop (mkF m 102 #[iv p0, iv p1, iv (1 : Int32), iv (0 : Int32), rv aS, rv aE, iv (own_sh aS aS aE), iv (own_sh aS aE aS), iv (0 : Int32)] [])) _
        refine XS.iload X35.here hx rfl (hb hby at_102) rfl ?_
        show Steps p.tables e below (T35.setTop (mkF m 104 #[iv p0, iv p1, iv (1 : Int32), iv (0 : Int32), rv aS, rv aE, iv (own_sh aS aS aE), iv (own_sh aS aE aS), iv (0 : Int32)] [(.int (own_sh aS aE aS))])) _
        refine XS.iload X35.here hx rfl (hb hby at_104) rfl ?_
        exact kt
      have hc106_38 : (own_sh aS aE aS) = (0 : Int32) := by simp [own_sh, hne]
      have pre40 : ∀ t, Steps p.tables e below (T35.setTop (mkF m 114 #[iv p0, iv p1, iv (1 : Int32), iv (0 : Int32), rv aS, rv aE, iv (own_sh aS aS aE), iv (own_sh aS aE aS), iv (0 : Int32)] [(.int (1 : Int32))])) t → Steps p.tables e below (s₁.setTop (entryFrame m #[(.int p0), (.int p1)] maxLocals)) t := by
        intro t kt
        refine pre39 _ ?_
        show Steps p.tables e below (T35.setTop (mkF m 106 #[iv p0, iv p1, iv (1 : Int32), iv (0 : Int32), rv aS, rv aE, iv (own_sh aS aS aE), iv (own_sh aS aE aS), iv (0 : Int32)] [(.int (0 : Int32)), (.int (own_sh aS aE aS))])) _
        refine XS.icmpNo X35.here hx rfl (hb hby at_106) rfl (teq hc106_38).2 ?_
        show Steps p.tables e below (T35.setTop (mkF m 109 #[iv p0, iv p1, iv (1 : Int32), iv (0 : Int32), rv aS, rv aE, iv (own_sh aS aS aE), iv (own_sh aS aE aS), iv (0 : Int32)] [])) _
        refine XS.iconst X35.here hx rfl (hb hby at_109) ?_
        show Steps p.tables e below (T35.setTop (mkF m 110 #[iv p0, iv p1, iv (1 : Int32), iv (0 : Int32), rv aS, rv aE, iv (own_sh aS aS aE), iv (own_sh aS aE aS), iv (0 : Int32)] [(.int (1 : Int32))])) _
        refine XS.goto X35.here hx rfl (pc0 := 110) (pc' := 114) rfl (hb hby at_110) (by decide) (by decide) ?_
        exact kt
      obtain ⟨fs, hr, hrun, hended, hW, hsame⟩ := X35.leave (v := some (.int (1 : Int32))) (fun h => by rw [Bd.returns] at h; cases h)
      refine ⟨_, _, pre40 _ ?_, hrun, hended, _, _, rfl, ?_, ⟨_, rfl⟩, hW, hsame.mono (by decide) (by decide)⟩
      · show Steps p.tables e below (T35.setTop (mkF m 114 #[iv p0, iv p1, iv (1 : Int32), iv (0 : Int32), rv aS, rv aE, iv (own_sh aS aS aE), iv (own_sh aS aE aS), iv (0 : Int32)] [(.int (1 : Int32))])) _
        exact retN X35 hx (t := .boolean) Bd.returns (by simp) (hb hby at_114) hr
      · show Q0 Z p0 p1 aS aE h0 n0 _ T35.heap _
        rw [hh35]
        exact ⟨rfl, N35⟩
    · have pre41 : ∀ t, Steps p.tables e below (s₁.setTop (mkF m 28 #[iv p0, iv p1, iv (1 : Int32), iv (1 : Int32), .unset, .unset, .unset, .unset, .unset] [])) t → Steps p.tables e below (s₁.setTop (entryFrame m #[(.int p0), (.int p1)] maxLocals)) t := by
        intro t kt
        refine pre27 _ ?_
        show Steps p.tables e below (s₁.setTop (mkF m 15 #[iv p0, iv p1, iv (1 : Int32), .unset, .unset, .unset, .unset, .unset, .unset] [(.int (p1 &&& (1 : Int32)))])) _
        refine XS.ifNo X0.here hx rfl (hb hby at_15) rfl ((if0 _ _).trans (feq hc15).1) ?_
        show Steps p.tables e below (s₁.setTop (mkF m 18 #[iv p0, iv p1, iv (1 : Int32), .unset, .unset, .unset, .unset, .unset, .unset] [])) _
        refine XS.iconst X0.here hx rfl (hb hby at_18) ?_
        show Steps p.tables e below (s₁.setTop (mkF m 19 #[iv p0, iv p1, iv (1 : Int32), .unset, .unset, .unset, .unset, .unset, .unset] [(.int (1 : Int32))])) _
        refine XS.goto X0.here hx rfl (pc0 := 19) (pc' := 23) rfl (hb hby at_19) (by decide) (by decide) ?_
        show Steps p.tables e below (s₁.setTop (mkF m 23 #[iv p0, iv p1, iv (1 : Int32), .unset, .unset, .unset, .unset, .unset, .unset] [(.int (1 : Int32))])) _
        refine XS.istoreN X0.here hx rfl (hb hby at_23) rfl (l' := #[iv p0, iv p1, iv (1 : Int32), iv (1 : Int32), .unset, .unset, .unset, .unset, .unset]) rfl ?_
        show Steps p.tables e below (s₁.setTop (mkF m 24 #[iv p0, iv p1, iv (1 : Int32), iv (1 : Int32), .unset, .unset, .unset, .unset, .unset] [])) _
        refine XS.iloadN X0.here hx rfl (hb hby at_24) rfl ?_
        show Steps p.tables e below (s₁.setTop (mkF m 25 #[iv p0, iv p1, iv (1 : Int32), iv (1 : Int32), .unset, .unset, .unset, .unset, .unset] [(.int (1 : Int32))])) _
        refine XS.ifNo X0.here hx rfl (hb hby at_25) rfl ((if0 _ _).trans (feq (by decide)).1) ?_
        exact kt
      obtain ⟨T42, X42, e42, st42⟩ := getS2 X0 hx hZ hown (host := "") (Or.inl (hw _ (List.mem_of_getElem? (i := 3) rfl))) Via.refl e0 (S_SHARED.ext (O0.keep (Keep.refl h0 []) all0).2) (g := (mkF m 28 #[iv p0, iv p1, iv (1 : Int32), iv (1 : Int32), .unset, .unset, .unset, .unset, .unset] [])) rfl (hb hby at_28)
      have pre43 : ∀ t, Steps p.tables e below (T42.setTop (mkF m 43 #[iv p0, iv p1, iv (1 : Int32), iv (1 : Int32), rv aS, .unset, .unset, .unset, .unset] [])) t → Steps p.tables e below (s₁.setTop (entryFrame m #[(.int p0), (.int p1)] maxLocals)) t := by
        intro t kt
        refine pre41 _ ?_
        show Steps p.tables e below (s₁.setTop (mkF m 28 #[iv p0, iv p1, iv (1 : Int32), iv (1 : Int32), .unset, .unset, .unset, .unset, .unset] [])) _
        refine st42 _ ?_
        show Steps p.tables e below (T42.setTop (mkF m 31 #[iv p0, iv p1, iv (1 : Int32), iv (1 : Int32), .unset, .unset, .unset, .unset, .unset] [(.ref aS)])) _
        refine XS.goto X42.here hx rfl (pc0 := 31) (pc' := 37) rfl (hb hby at_31) (by decide) (by decide) ?_
        show Steps p.tables e below (T42.setTop (mkF m 37 #[iv p0, iv p1, iv (1 : Int32), iv (1 : Int32), .unset, .unset, .unset, .unset, .unset] [(.ref aS)])) _
        refine XS.astore X42.here hx rfl (hb hby at_37) rfl rfl (l' := #[iv p0, iv p1, iv (1 : Int32), iv (1 : Int32), rv aS, .unset, .unset, .unset, .unset]) rfl ?_
        show Steps p.tables e below (T42.setTop (mkF m 39 #[iv p0, iv p1, iv (1 : Int32), iv (1 : Int32), rv aS, .unset, .unset, .unset, .unset] [])) _
        refine XS.iloadN X42.here hx rfl (hb hby at_39) rfl ?_
        show Steps p.tables e below (T42.setTop (mkF m 40 #[iv p0, iv p1, iv (1 : Int32), iv (1 : Int32), rv aS, .unset, .unset, .unset, .unset] [(.int (1 : Int32))])) _
        refine XS.ifNo X42.here hx rfl (hb hby at_40) rfl ((if0 _ _).trans (feq (by decide)).1) ?_
        exact kt
      obtain ⟨T44, X44, e44, st44⟩ := getS2 X42 hx hZ hown (host := "") (Or.inl (hw _ (List.mem_of_getElem? (i := 3) rfl))) Via.refl e42 (S_SHARED.ext (O0.keep (Keep.refl h0 []) all0).2) (g := (mkF m 43 #[iv p0, iv p1, iv (1 : Int32), iv (1 : Int32), rv aS, .unset, .unset, .unset, .unset] [])) rfl (hb hby at_43)
      have pre45 : ∀ t, Steps p.tables e below (T44.setTop (mkF m 58 #[iv p0, iv p1, iv (1 : Int32), iv (1 : Int32), rv aS, rv aS, .unset, .unset, .unset] [(.ref aS), (.ref aS)])) t → Steps p.tables e below (s₁.setTop (entryFrame m #[(.int p0), (.int p1)] maxLocals)) t := by
        intro t kt
        refine pre43 _ ?_
        show Steps p.tables e below (T42.setTop (mkF m 43 #[iv p0, iv p1, iv (1 : Int32), iv (1 : Int32), rv aS, .unset, .unset, .unset, .unset] [])) _
        refine st44 _ ?_
        show Steps p.tables e below (T44.setTop (mkF m 46 #[iv p0, iv p1, iv (1 : Int32), iv (1 : Int32), rv aS, .unset, .unset, .unset, .unset] [(.ref aS)])) _
        refine XS.goto X44.here hx rfl (pc0 := 46) (pc' := 52) rfl (hb hby at_46) (by decide) (by decide) ?_
        show Steps p.tables e below (T44.setTop (mkF m 52 #[iv p0, iv p1, iv (1 : Int32), iv (1 : Int32), rv aS, .unset, .unset, .unset, .unset] [(.ref aS)])) _
        refine XS.astore X44.here hx rfl (hb hby at_52) rfl rfl (l' := #[iv p0, iv p1, iv (1 : Int32), iv (1 : Int32), rv aS, rv aS, .unset, .unset, .unset]) rfl ?_
        show Steps p.tables e below (T44.setTop (mkF m 54 #[iv p0, iv p1, iv (1 : Int32), iv (1 : Int32), rv aS, rv aS, .unset, .unset, .unset] [])) _
        refine XS.aload X44.here hx rfl (hb hby at_54) rfl rfl ?_
        show Steps p.tables e below (T44.setTop (mkF m 56 #[iv p0, iv p1, iv (1 : Int32), iv (1 : Int32), rv aS, rv aS, .unset, .unset, .unset] [(.ref aS)])) _
        refine XS.aload X44.here hx rfl (hb hby at_56) rfl rfl ?_
        exact kt
      obtain ⟨cq46, kq46, q46a, q46b, q46c⟩ := isOf hZ e44 (E_aS.ext (O0.keep (Keep.refl h0 []) all0).2)
      obtain ⟨_, _, ⟨T46, L46, k46, n46⟩, -, X46, ⟨Lc46, hQ46, l46, y46, z46⟩, st46⟩ := X44.virtualBack hx (y := (⟨"com/example/ereikoussa/ereikoussa/lock/LockMode", "sharesWith", "(Lcom/example/ereikoussa/ereikoussa/lock/LockMode;)Z"⟩ : MethodName)) (z := (⟨"com/example/ereikoussa/ereikoussa/lock/LockMode", "sharesWith", "(Lcom/example/ereikoussa/ereikoussa/lock/LockMode;)Z"⟩ : MethodName)) hown (mvT hZ (hw _ (List.mem_of_getElem? (i := 5) rfl))) (mvT hZ (hw _ (List.mem_of_getElem? (i := 6) rfl))) (notFace_of_selects (args := #[]) (mvT hZ (hw _ (List.mem_of_getElem? (i := 8) rfl)))) (mvT hZ (hw _ (List.mem_of_getElem? (i := 8) rfl))) (mvT hZ (hw _ (List.mem_of_getElem? (i := 7) rfl))) (by decide) (backOf (W := 0) (rm1 l Z a0 hw [] aS aS aS h0 n0 (Nat.le_trans Z0 (Keep.refl h0 []).1) (O0.keep (Keep.refl h0 []) all0) S_SHARED) hZ (hw _ (List.mem_of_getElem? (i := 9) rfl)) (hw _ (List.mem_of_getElem? (i := 1) rfl)) (by decide) (by decide)) q46a q46c (g := (mkF m 58 #[iv p0, iv p1, iv (1 : Int32), iv (1 : Int32), rv aS, rv aS, .unset, .unset, .unset] [(.ref aS), (.ref aS)])) rfl (by rw [hml]; rfl) (Steps.refl _) (argsL := [(.ref aS)]) (rest := []) (lenOf pd2 rfl) rfl (by show 2 * 0 + _ ≤ _; exact Nat.le_of_eq rfl) (hb hby at_58) (fun _ _ => ⟨rfl, e44, (by decide : 0 + 0 ≤ _), (by decide : 0 + 0 ≤ _)⟩)
      dsimp only [Pt.U, Pt.locs, Pt.cells, Pt.slots] at X46 l46 y46 z46 st46 hQ46
      subst l46 y46 z46
      obtain ⟨rfl, N46q, hh46⟩ := hQ46
      have N46 := Fr.app N0 N46q
      have pre47 : ∀ t, Steps p.tables e below (T46.setTop (mkF m 67 #[iv p0, iv p1, iv (1 : Int32), iv (1 : Int32), rv aS, rv aS, iv (own_sh aS aS aS), .unset, .unset] [(.ref aS), (.ref aS)])) t → Steps p.tables e below (s₁.setTop (entryFrame m #[(.int p0), (.int p1)] maxLocals)) t := by
        intro t kt
        refine pre45 _ ?_
        show Steps p.tables e below (T44.setTop (mkF m 58 #[iv p0, iv p1, iv (1 : Int32), iv (1 : Int32), rv aS, rv aS, .unset, .unset, .unset] [(.ref aS), (.ref aS)])) _
        refine st46.trans ?_
        show Steps p.tables e below (T46.setTop (mkF m 61 #[iv p0, iv p1, iv (1 : Int32), iv (1 : Int32), rv aS, rv aS, .unset, .unset, .unset] [(.int (own_sh aS aS aS))])) _
        refine XS.istore X46.here hx rfl (hb hby at_61) rfl (l' := #[iv p0, iv p1, iv (1 : Int32), iv (1 : Int32), rv aS, rv aS, iv (own_sh aS aS aS), .unset, .unset]) rfl ?_
        show Steps p.tables e below (T46.setTop (mkF m 63 #[iv p0, iv p1, iv (1 : Int32), iv (1 : Int32), rv aS, rv aS, iv (own_sh aS aS aS), .unset, .unset] [])) _
        refine XS.aload X46.here hx rfl (hb hby at_63) rfl rfl ?_
        show Steps p.tables e below (T46.setTop (mkF m 65 #[iv p0, iv p1, iv (1 : Int32), iv (1 : Int32), rv aS, rv aS, iv (own_sh aS aS aS), .unset, .unset] [(.ref aS)])) _
        refine XS.aload X46.here hx rfl (hb hby at_65) rfl rfl ?_
        exact kt
      obtain ⟨cq48, kq48, q48a, q48b, q48c⟩ := isOf hZ hh46 (E_aS.ext (O0.keep (Keep.refl h0 []) all0).2)
      obtain ⟨_, _, ⟨T48, L48, k48, n48⟩, -, X48, ⟨Lc48, hQ48, l48, y48, z48⟩, st48⟩ := X46.virtualBack hx (y := (⟨"com/example/ereikoussa/ereikoussa/lock/LockMode", "sharesWith", "(Lcom/example/ereikoussa/ereikoussa/lock/LockMode;)Z"⟩ : MethodName)) (z := (⟨"com/example/ereikoussa/ereikoussa/lock/LockMode", "sharesWith", "(Lcom/example/ereikoussa/ereikoussa/lock/LockMode;)Z"⟩ : MethodName)) hown (mvT hZ (hw _ (List.mem_of_getElem? (i := 5) rfl))) (mvT hZ (hw _ (List.mem_of_getElem? (i := 6) rfl))) (notFace_of_selects (args := #[]) (mvT hZ (hw _ (List.mem_of_getElem? (i := 8) rfl)))) (mvT hZ (hw _ (List.mem_of_getElem? (i := 8) rfl))) (mvT hZ (hw _ (List.mem_of_getElem? (i := 7) rfl))) (by decide) (backOf (W := 0) (rm1 l Z a0 hw [] aS aS aS h0 n0 (Nat.le_trans Z0 (Keep.refl h0 []).1) (O0.keep (Keep.refl h0 []) all0) S_SHARED) hZ (hw _ (List.mem_of_getElem? (i := 9) rfl)) (hw _ (List.mem_of_getElem? (i := 1) rfl)) (by decide) (by decide)) q48a q48c (g := (mkF m 67 #[iv p0, iv p1, iv (1 : Int32), iv (1 : Int32), rv aS, rv aS, iv (own_sh aS aS aS), .unset, .unset] [(.ref aS), (.ref aS)])) rfl (by rw [hml]; rfl) (Steps.refl _) (argsL := [(.ref aS)]) (rest := []) (lenOf pd2 rfl) rfl (by show 2 * 0 + _ ≤ _; exact Nat.le_of_eq rfl) (hb hby at_67) (fun _ _ => ⟨rfl, hh46, (by decide : 0 + 0 ≤ _), (by decide : 0 + 0 ≤ _)⟩)
      dsimp only [Pt.U, Pt.locs, Pt.cells, Pt.slots] at X48 l48 y48 z48 st48 hQ48
      subst l48 y48 z48
      obtain ⟨rfl, N48q, hh48⟩ := hQ48
      have N48 := Fr.app N46 N48q
      have pre50 : ∀ t, Steps p.tables e below (T48.setTop (mkF m 99 #[iv p0, iv p1, iv (1 : Int32), iv (1 : Int32), rv aS, rv aS, iv (own_sh aS aS aS), iv (own_sh aS aS aS), iv (1 : Int32)] [(.int (1 : Int32)), (.int (own_sh aS aS aS))])) t → Steps p.tables e below (s₁.setTop (entryFrame m #[(.int p0), (.int p1)] maxLocals)) t := by
        intro t kt
        refine pre47 _ ?_
        show Steps p.tables e below (T46.setTop (mkF m 67 #[iv p0, iv p1, iv (1 : Int32), iv (1 : Int32), rv aS, rv aS, iv (own_sh aS aS aS), .unset, .unset] [(.ref aS), (.ref aS)])) _
        refine st48.trans ?_
        show Steps p.tables e below (T48.setTop (mkF m 70 #[iv p0, iv p1, iv (1 : Int32), iv (1 : Int32), rv aS, rv aS, iv (own_sh aS aS aS), .unset, .unset] [(.int (own_sh aS aS aS))])) _
        refine XS.istore X48.here hx rfl (hb hby at_70) rfl (l' := #[iv p0, iv p1, iv (1 : Int32), iv (1 : Int32), rv aS, rv aS, iv (own_sh aS aS aS), iv (own_sh aS aS aS), .unset]) rfl ?_
        show Steps p.tables e below (T48.setTop (mkF m 72 #[iv p0, iv p1, iv (1 : Int32), iv (1 : Int32), rv aS, rv aS, iv (own_sh aS aS aS), iv (own_sh aS aS aS), .unset] [])) _
        refine XS.iloadN X48.here hx rfl (hb hby at_72) rfl ?_
        show Steps p.tables e below (T48.setTop (mkF m 73 #[iv p0, iv p1, iv (1 : Int32), iv (1 : Int32), rv aS, rv aS, iv (own_sh aS aS aS), iv (own_sh aS aS aS), .unset] [(.int (1 : Int32))])) _
        refine XS.ifNo X48.here hx rfl (hb hby at_73) rfl ((if0 _ _).trans (feq (by decide)).1) ?_
        show Steps p.tables e below (T48.setTop (mkF m 76 #[iv p0, iv p1, iv (1 : Int32), iv (1 : Int32), rv aS, rv aS, iv (own_sh aS aS aS), iv (own_sh aS aS aS), .unset] [])) _
        refine XS.iloadN X48.here hx rfl (hb hby at_76) rfl ?_
        show Steps p.tables e below (T48.setTop (mkF m 77 #[iv p0, iv p1, iv (1 : Int32), iv (1 : Int32), rv aS, rv aS, iv (own_sh aS aS aS), iv (own_sh aS aS aS), .unset] [(.int (1 : Int32))])) _
        refine XS.ifNo X48.here hx rfl (hb hby at_77) rfl ((if0 _ _).trans (feq (by decide)).1) ?_
        show Steps p.tables e below (T48.setTop (mkF m 80 #[iv p0, iv p1, iv (1 : Int32), iv (1 : Int32), rv aS, rv aS, iv (own_sh aS aS aS), iv (own_sh aS aS aS), .unset] [])) _
        refine XS.iconst X48.here hx rfl (hb hby at_80) ?_
        show Steps p.tables e below (T48.setTop (mkF m 81 #[iv p0, iv p1, iv (1 : Int32), iv (1 : Int32), rv aS, rv aS, iv (own_sh aS aS aS), iv (own_sh aS aS aS), .unset] [(.int (1 : Int32))])) _
        refine XS.istore X48.here hx rfl (hb hby at_81) rfl (l' := #[iv p0, iv p1, iv (1 : Int32), iv (1 : Int32), rv aS, rv aS, iv (own_sh aS aS aS), iv (own_sh aS aS aS), iv (1 : Int32)]) rfl ?_
        show Steps p.tables e below (T48.setTop (mkF m 83 #[iv p0, iv p1, iv (1 : Int32), iv (1 : Int32), rv aS, rv aS, iv (own_sh aS aS aS), iv (own_sh aS aS aS), iv (1 : Int32)] [])) _
        refine XS.goto X48.here hx rfl (pc0 := 83) (pc' := 95) rfl (hb hby at_83) (by decide) (by decide) ?_
        show Steps p.tables e below (T48.setTop (mkF m 95 #[iv p0, iv p1, iv (1 : Int32), iv (1 : Int32), rv aS, rv aS, iv (own_sh aS aS aS), iv (own_sh aS aS aS), iv (1 : Int32)] [])) _
        refine XS.iload X48.here hx rfl (hb hby at_95) rfl ?_
        show Steps p.tables e below (T48.setTop (mkF m 97 #[iv p0, iv p1, iv (1 : Int32), iv (1 : Int32), rv aS, rv aS, iv (own_sh aS aS aS), iv (own_sh aS aS aS), iv (1 : Int32)] [(.int (own_sh aS aS aS))])) _
        refine XS.iload X48.here hx rfl (hb hby at_97) rfl ?_
        exact kt
      have hc99_49 : (own_sh aS aS aS) = (1 : Int32) := by simp [own_sh, hne]
      have pre51 : ∀ t, Steps p.tables e below (T48.setTop (mkF m 114 #[iv p0, iv p1, iv (1 : Int32), iv (1 : Int32), rv aS, rv aS, iv (own_sh aS aS aS), iv (own_sh aS aS aS), iv (1 : Int32)] [(.int (1 : Int32))])) t → Steps p.tables e below (s₁.setTop (entryFrame m #[(.int p0), (.int p1)] maxLocals)) t := by
        intro t kt
        refine pre50 _ ?_
        show Steps p.tables e below (T48.setTop (mkF m 99 #[iv p0, iv p1, iv (1 : Int32), iv (1 : Int32), rv aS, rv aS, iv (own_sh aS aS aS), iv (own_sh aS aS aS), iv (1 : Int32)] [(.int (1 : Int32)), (.int (own_sh aS aS aS))])) _
        refine XS.icmpNo X48.here hx rfl (hb hby at_99) rfl (teq hc99_49).2 ?_
        show Steps p.tables e below (T48.setTop (mkF m 102 #[iv p0, iv p1, iv (1 : Int32), iv (1 : Int32), rv aS, rv aS, iv (own_sh aS aS aS), iv (own_sh aS aS aS), iv (1 : Int32)] [])) _
        refine XS.iload X48.here hx rfl (hb hby at_102) rfl ?_
        show Steps p.tables e below (T48.setTop (mkF m 104 #[iv p0, iv p1, iv (1 : Int32), iv (1 : Int32), rv aS, rv aS, iv (own_sh aS aS aS), iv (own_sh aS aS aS), iv (1 : Int32)] [(.int (own_sh aS aS aS))])) _
        refine XS.iload X48.here hx rfl (hb hby at_104) rfl ?_
        show Steps p.tables e below (T48.setTop (mkF m 106 #[iv p0, iv p1, iv (1 : Int32), iv (1 : Int32), rv aS, rv aS, iv (own_sh aS aS aS), iv (own_sh aS aS aS), iv (1 : Int32)] [(.int (1 : Int32)), (.int (own_sh aS aS aS))])) _
        refine XS.icmpNo X48.here hx rfl (hb hby at_106) rfl (teq hc99_49).2 ?_
        show Steps p.tables e below (T48.setTop (mkF m 109 #[iv p0, iv p1, iv (1 : Int32), iv (1 : Int32), rv aS, rv aS, iv (own_sh aS aS aS), iv (own_sh aS aS aS), iv (1 : Int32)] [])) _
        refine XS.iconst X48.here hx rfl (hb hby at_109) ?_
        show Steps p.tables e below (T48.setTop (mkF m 110 #[iv p0, iv p1, iv (1 : Int32), iv (1 : Int32), rv aS, rv aS, iv (own_sh aS aS aS), iv (own_sh aS aS aS), iv (1 : Int32)] [(.int (1 : Int32))])) _
        refine XS.goto X48.here hx rfl (pc0 := 110) (pc' := 114) rfl (hb hby at_110) (by decide) (by decide) ?_
        exact kt
      obtain ⟨fs, hr, hrun, hended, hW, hsame⟩ := X48.leave (v := some (.int (1 : Int32))) (fun h => by rw [Bd.returns] at h; cases h)
      refine ⟨_, _, pre51 _ ?_, hrun, hended, _, _, rfl, ?_, ⟨_, rfl⟩, hW, hsame.mono (by decide) (by decide)⟩
      · show Steps p.tables e below (T48.setTop (mkF m 114 #[iv p0, iv p1, iv (1 : Int32), iv (1 : Int32), rv aS, rv aS, iv (own_sh aS aS aS), iv (own_sh aS aS aS), iv (1 : Int32)] [(.int (1 : Int32))])) _
        exact retN X48 hx (t := .boolean) Bd.returns (by simp) (hb hby at_114) hr
      · show Q0 Z p0 p1 aS aE h0 n0 _ T48.heap _
        rw [hh48]
        exact ⟨rfl, N48⟩
set_option maxRecDepth 65536 in
set_option maxHeartbeats 40000000 in
theorem comes_1 {Post : Tables → Env → Array Value → State → Outcome → State → Prop} (hpost : ∀ tb e args s v u, (limb_1_1.after args s (.returned v) u = true ∧ limb_1_2.after args s (.returned v) u = true ∧ True) → FrameEnd s (.returned v) u (Jvm.fieldLocs frame_1_writes args s ++ Jvm.arrayLocs frame_1_arrays args s ++ Jvm.staticLocs frame_1_statics s) 0 0 → Post tb e args s (.returned v) u) :
    ArmFor flags0 classFile x code maxLocals ret World_1 tables_1 room_1 Calls_1 rest_1 Pre_1 Post := by
  intro l hfl _ _ p e ha hc hk s m args below hf hA hF happ hP
  obtain ⟨hcalls, hrest, hpre⟩ := hP
  obtain ⟨-, -, -, hnamed, -, -, -, hat⟩ := (Spec.applies_iff hf).mp happ
  obtain ⟨hg, hn⟩ := and_e (Cond.before_iff.mp (show (Jvm.Cond.and given_1 narrow_1).before args s = true from hpre))
  obtain ⟨gg1, gg2⟩ := and_e hg
  obtain ⟨gg3, gg4⟩ := and_e gg2
  obtain ⟨w0, w1, rfl⟩ : ∃ w0 w1 : Value, args = #[w0, w1] := by
    have hs : args.size = 2 := by simpa [Cond.value, given_1] using gg1
    obtain ⟨L⟩ := args
    match L, hs with
    | [w0, w1], _ => exact ⟨w0, w1, rfl⟩
  have hw := fun d (hd : d ∈ tables_1) => atoms_spec (ws := Jvm.Cond.code x code maxLocals ret :: tables_1) hat d (List.mem_cons_of_mem _ hd)
  have hfit : Fit s := fun {y c} hc i hi => by
    obtain ⟨ha, rfl⟩ := Array.getElem?_eq_some_iff.mp hc
    have q := List.all_eq_true.mp ((Array.all_eq_true_iff_forall_mem.mp hF) _ (Array.getElem_mem ha)) i (List.mem_range.mpr hi)
    simpa [Array.getElem?_eq_getElem hi] using q
  obtain ⟨i0, ei0⟩ := is_v gg3
  obtain rfl : w0 = (.int i0) := Option.some.inj ei0
  obtain ⟨i1, ei1⟩ := is_v gg4
  obtain rfl : w1 = (.int i1) := Option.some.inj ei1
  obtain ⟨gg5, gg6⟩ := and_e hn
  obtain ⟨gg7, gg8⟩ := and_e gg6
  obtain ⟨gg9, gg10⟩ := and_e gg8
  obtain ⟨s_EXCLUSIVE, ev_EXCLUSIVE⟩ := exa_v gg5
  have St_EXCLUSIVE := Sta.start ev_EXCLUSIVE (Or.inr ⟨(hw _ (List.mem_of_getElem? (i := 1) rfl)), (hw _ (List.mem_of_getElem? (i := 2) rfl))⟩)
  have Ex_EXCLUSIVE := Exa.start ev_EXCLUSIVE gg5
  obtain ⟨s_SHARED, ev_SHARED⟩ := exa_v gg7
  have St_SHARED := Sta.start ev_SHARED (Or.inr ⟨(hw _ (List.mem_of_getElem? (i := 1) rfl)), (hw _ (List.mem_of_getElem? (i := 4) rfl))⟩)
  have Ex_SHARED := Exa.start ev_SHARED gg7
  have Fo_EXCLUSIVE := Fld.start (own_fi ev_EXCLUSIVE gg9)
  have Fo_SHARED := Fld.start (own_fi ev_SHARED gg10)
  obtain ⟨n, o, h1, h2, h3, _, L, rfl, ⟨rfl, N⟩, hq⟩ := rm0 l s _ hw tables_1 i0 i1 s_SHARED s_EXCLUSIVE s.heap s.heap.size (Nat.le_refl _) (Old.start s) St_SHARED Ex_SHARED St_EXCLUSIVE Ex_EXCLUSIVE (Fld.ne Fo_EXCLUSIVE Fo_SHARED (by simp)) p e ha hc hk s m _ below hf ((Spec.applies_iff_loose hf).mp happ).1 ⟨rfl, State.Warmed39.refl s, rfl⟩ trivial
  refine ⟨n, _, h1, h2, h3, hpost _ _ _ _ _ _ ⟨Cond.after_iff.mpr rfl, Cond.after_iff.mpr (eq_i res_at (Term.int_eval (1)) rfl), trivial⟩ ⟨hq.1, hq.2.1, (hq.2.2.sift fun y hy => Or.inr (N y hy)).mono (by decide) (by decide)⟩⟩
theorem main_1_1 : Claimed_1_1 := comes_1 fun _ _ _ _ _ _ h hF => ⟨h.1, hF⟩
theorem main_1_2 : Claimed_1_2 := comes_1 fun _ _ _ _ _ _ h hF => ⟨h.2.1, hF⟩
end Jvm.Pilot.@@N@@
namespace Jvm.Pilot.@@N@@
open Jvm Jvm.ClassFile Sem Op Lib Jvm.Free Jvm.Stand Jvm.Pilot.@@N@@.Jvm.D
/-! MADE BY PROGRAM (witnessworld.py) out of the Statement's table words and the real class files: 12 classes; the members and pool entries that the words name. The judged class is class 1, her method 1. -/
namespace start1
open Jvm.ClassFile
def u (s : String) : CpInfo := .utf8 (stringToUtf16 s)
/-- a pool by its gaps: so many unusable entries, then the entry; so many at the end -/
def gap : Nat → List CpInfo → List CpInfo
  | 0, r => r
  | n + 1, r => .unusable :: gap n r
def poolList (es : List (Nat × CpInfo)) (last : Nat) : List CpInfo := es.foldr (fun e r => gap e.1 (e.2 :: r)) (gap last [])
def pool (es : List (Nat × CpInfo)) (last : Nat) : Array CpInfo := ⟨poolList es last⟩
def fileOf (pool : Array CpInfo) (this : Nat) (attrs : Array Attribute := #[]) (ms : Array MethodInfo := #[]) (fl : Nat := 33) (sup : Nat := 0) (ifs : Array Nat := #[]) (fds : Array FieldInfo := #[]) : ClassFile where
  minorVersion := 0
  majorVersion := 65
  constantPool := pool
  accessFlags := fl
  thisClass := this
  superClass := sup
  interfaces := ifs
  fields := fds
  methods := ms
  attributes := attrs
def plain (name : String) (sup : Option ClassId) : Class where
  name := name
  kind := .ordinary
  loader := none
  accessFlags := 33
  super := sup
  interfaces := #[]
  cf := none
  fields := #[]
  methods := #[]
  instanceTypes := #[]
  staticTypes := #[]
  resolved := #[]
  callSites := []
  init := .initialized
  statics := none
  mirror := none

def pool0 : Array CpInfo := pool [(5, u "<init>"), (0, u "()V"), (1, .class_ 10), (1, u "java/lang/Object")] 113

def k0m0 : Method := { name := "<init>", desc := "()V", sig := { parameters := [], returnType := none }, accessFlags := 1, code := none }
/-- java/lang/Object -/
def k0 : Class := { plain "java/lang/Object" none with
  accessFlags := 33
  interfaces := #[]
  cf := some (fileOf pool0 8 #[] #[{ accessFlags := 1, nameIndex := 5, descriptorIndex := 6, attributes := #[] }] 33 0 #[] #[])
  fields := #[]
  methods := #[k0m0]
  instanceTypes := #[]
  staticTypes := #[]
  resolved := Array.replicate 124 none
  statics := none }

def pool1 : Array CpInfo := pool [(2, .class_ 4), (1, u "java/lang/Object"), (0, u "<init>"), (0, u "()V"), (0, .fieldref 8 9), (0, .class_ 10), (0, .nameAndType 11 12), (0, u "com/example/ereikoussa/ereikoussa/lock/LockMode"), (0, u "SHARED"), (0, u "Lcom/example/ereikoussa/ereikoussa/lock/LockMode;"), (0, .fieldref 8 14), (0, .nameAndType 15 12), (0, u "EXCLUSIVE"), (0, .methodref 8 17), (0, .nameAndType 18 19), (0, u "sharesWith"), (0, u "(Lcom/example/ereikoussa/ereikoussa/lock/LockMode;)Z"), (0, .class_ 21), (0, u "com/example/ereikoussa/ereikoussa/lock/LockModeSharesWithPinLaw"), (2, u "law"), (0, u "(II)Z")] 3

def k1m0 : Method := { name := "<init>", desc := "()V", sig := { parameters := [], returnType := none }, accessFlags := 1, code := none }
def k1c1 : Code := { maxStack := 2, maxLocals := 9, code := code, exceptionTable := #[], attributes := #[] }
def k1m1 : Method := { name := "law", desc := "(II)Z", sig := { parameters := [.int, .int], returnType := some .boolean }, accessFlags := 9, code := some k1c1 }
/-- com/example/ereikoussa/ereikoussa/lock/LockModeSharesWithPinLaw -/
def k1 : Class := { plain "com/example/ereikoussa/ereikoussa/lock/LockModeSharesWithPinLaw" (some 0) with
  accessFlags := 49
  interfaces := #[]
  cf := some (fileOf pool1 20 #[] #[{ accessFlags := 1, nameIndex := 5, descriptorIndex := 6, attributes := #[] }, { accessFlags := 9, nameIndex := 24, descriptorIndex := 25, attributes := #[] }] 49 2 #[] #[])
  fields := #[]
  methods := #[k1m0, k1m1]
  instanceTypes := #[]
  staticTypes := #[]
  resolved := Array.replicate 29 none
  statics := none }

def pool2 : Array CpInfo := pool [(1, .class_ 2), (0, u "java/lang/constant/Constable"), (0, .class_ 4), (0, u "java/lang/Object")] 6

/-- java/lang/constant/Constable -/
def k2 : Class := { plain "java/lang/constant/Constable" (some 0) with
  accessFlags := 1537
  interfaces := #[]
  cf := some (fileOf pool2 1 #[] #[] 1537 3 #[] #[])
  fields := #[]
  methods := #[]
  instanceTypes := #[]
  staticTypes := #[]
  resolved := Array.replicate 11 none
  statics := none }

def pool3 : Array CpInfo := pool [(1, .class_ 2), (0, u "java/lang/Comparable"), (0, .class_ 4), (0, u "java/lang/Object")] 7

/-- java/lang/Comparable -/
def k3 : Class := { plain "java/lang/Comparable" (some 0) with
  accessFlags := 1537
  interfaces := #[]
  cf := some (fileOf pool3 1 #[] #[] 1537 3 #[] #[])
  fields := #[]
  methods := #[]
  instanceTypes := #[]
  staticTypes := #[]
  resolved := Array.replicate 12 none
  statics := none }

def pool4 : Array CpInfo := pool [(1, .class_ 2), (0, u "java/io/Serializable"), (0, .class_ 4), (0, u "java/lang/Object")] 2

/-- java/io/Serializable -/
def k4 : Class := { plain "java/io/Serializable" (some 0) with
  accessFlags := 1537
  interfaces := #[]
  cf := some (fileOf pool4 1 #[] #[] 1537 3 #[] #[])
  fields := #[]
  methods := #[]
  instanceTypes := #[]
  staticTypes := #[]
  resolved := Array.replicate 7 none
  statics := none }

def pool5 : Array CpInfo := pool [(2, .class_ 4), (1, u "java/lang/Enum"), (0, u "name"), (0, u "Ljava/lang/String;"), (2, u "ordinal"), (0, u "I"), (1, .class_ 14), (1, u "java/lang/Object"), (4, u "hash"), (86, .class_ 108), (1, u "java/lang/Enum$EnumDesc"), (2, .class_ 112), (0, u "java/lang/constant/Constable"), (0, .class_ 114), (0, u "java/lang/Comparable"), (0, .class_ 116), (0, u "java/io/Serializable")] 87

/-- java/lang/Enum -/
def k5 : Class := { plain "java/lang/Enum" (some 0) with
  accessFlags := 1057
  interfaces := #[2, 3, 4]
  cf := some (fileOf pool5 2 #[.nestMembers #[106]] #[] 1057 12 #[111, 113, 115] #[{ accessFlags := 18, nameIndex := 5, descriptorIndex := 6, attributes := #[] }, { accessFlags := 18, nameIndex := 9, descriptorIndex := 10, attributes := #[] }, { accessFlags := 2, nameIndex := 19, descriptorIndex := 10, attributes := #[] }])
  fields := #[{ name := "name", type := (.object "java/lang/String"), accessFlags := 18, slot := 0, constantValue := 0 }, { name := "ordinal", type := .int, accessFlags := 18, slot := 1, constantValue := 0 }, { name := "hash", type := .int, accessFlags := 2, slot := 2, constantValue := 0 }]
  methods := #[]
  instanceTypes := #[(.object "java/lang/String"), .int, .int]
  staticTypes := #[]
  resolved := Array.replicate 204 none
  statics := none }

def pool6 : Array CpInfo := pool [(1, .class_ 2), (0, u "com/example/ereikoussa/ereikoussa/lock/LockMode"), (2, u "EXCLUSIVE"), (0, u "Lcom/example/ereikoussa/ereikoussa/lock/LockMode;"), (0, .fieldref 1 8), (0, .nameAndType 9 6), (0, u "SHARED"), (2, u "$VALUES"), (0, u "[Lcom/example/ereikoussa/ereikoussa/lock/LockMode;"), (6, .class_ 22), (1, u "java/lang/Enum"), (56, u "sharesWith"), (0, u "(Lcom/example/ereikoussa/ereikoussa/lock/LockMode;)Z")] 19

def k6c0 : Code := { maxStack := 2, maxLocals := 2, code := prog_29_method_5_code, exceptionTable := #[], attributes := #[] }
def k6m0 : Method := { name := "sharesWith", desc := "(Lcom/example/ereikoussa/ereikoussa/lock/LockMode;)Z", sig := { parameters := [(.object "com/example/ereikoussa/ereikoussa/lock/LockMode")], returnType := some .boolean }, accessFlags := 1, code := some k6c0 }
/-- com/example/ereikoussa/ereikoussa/lock/LockMode -/
def k6 : Class := { plain "com/example/ereikoussa/ereikoussa/lock/LockMode" (some 5) with
  accessFlags := 16433
  interfaces := #[]
  cf := some (fileOf pool6 1 #[] #[{ accessFlags := 1, nameIndex := 79, descriptorIndex := 80, attributes := #[] }] 16433 20 #[] #[{ accessFlags := 16409, nameIndex := 5, descriptorIndex := 6, attributes := #[] }, { accessFlags := 16409, nameIndex := 9, descriptorIndex := 6, attributes := #[] }, { accessFlags := 4122, nameIndex := 12, descriptorIndex := 13, attributes := #[] }])
  fields := #[{ name := "EXCLUSIVE", type := (.object "com/example/ereikoussa/ereikoussa/lock/LockMode"), accessFlags := 16409, slot := 0, constantValue := 0 }, { name := "SHARED", type := (.object "com/example/ereikoussa/ereikoussa/lock/LockMode"), accessFlags := 16409, slot := 1, constantValue := 0 }, { name := "$VALUES", type := (.array (.object "com/example/ereikoussa/ereikoussa/lock/LockMode")), accessFlags := 4122, slot := 2, constantValue := 0 }]
  methods := #[k6m0]
  instanceTypes := #[(.object "java/lang/String"), .int, .int]
  staticTypes := #[(.object "com/example/ereikoussa/ereikoussa/lock/LockMode"), (.object "com/example/ereikoussa/ereikoussa/lock/LockMode"), (.array (.object "com/example/ereikoussa/ereikoussa/lock/LockMode"))]
  resolved := Array.replicate 100 none
  statics := some 0 }

def pool7 : Array CpInfo := pool [(1, u "java/lang/Cloneable"), (0, .class_ 1), (0, u "java/lang/Object"), (0, .class_ 3)] 3

/-- java/lang/Cloneable -/
def k7 : Class := { plain "java/lang/Cloneable" (some 0) with
  accessFlags := 1537
  interfaces := #[]
  cf := some (fileOf pool7 2 #[] #[] 1537 4 #[] #[])
  fields := #[]
  methods := #[]
  instanceTypes := #[]
  staticTypes := #[]
  resolved := Array.replicate 8 none
  statics := none }

/-- the primitive byte -/
def k8 : Class := { plain "byte" none with kind := .primitive 'B', accessFlags := 0x411 }
/-- [B -/
def k9 : Class := { plain "[B" (some 0) with kind := .array 8 .byte, interfaces := #[7, 4], accessFlags := 1041 }

/-- the primitive int -/
def k10 : Class := { plain "int" none with kind := .primitive 'I', accessFlags := 0x411 }
/-- [I -/
def k11 : Class := { plain "[I" (some 0) with kind := .array 10 .int, interfaces := #[7, 4], accessFlags := 1041 }

def heap : Heap := #[{ cls := 6, slots := #[.ref 1, .ref 2, .null], vm := .statics 6 },
  { cls := 6, slots := #[.null, .int 0, .int 0], vm := .none },
  { cls := 6, slots := #[.null, .int 1, .int 0], vm := .none }]
def classes : Array Class := #[k0, k1, k2, k3, k4, k5, k6, k7, k8, k9, k10, k11]
def interned : List (Array UInt16 × Addr) := []
def slotsUsed : Nat := 9
def theMethod : MethodId := ⟨1, 1⟩
def args0 : Array Value := #[.int 5, .int 6]
def aboutOver (below : List Frame) : State where
  vm := { classes := classes, interned := interned.toArray }
  heap := heap
  slotsUsed := slotsUsed
  threads := #[{ frames := .invoking theMethod args0 :: below }]
def below0 : List Frame := [.native { method := ⟨0, 0⟩, args := #[] }]
def about1 : State := aboutOver below0
def p0 : Program := .bare "" "" ""
def e0 : Env := launch0.env 0 0 0
theorem w_frames : about1.frames = Frame.invoking theMethod args0 :: below0 := rfl
set_option maxRecDepth 65536 in
theorem w_args : argsFit about1.vm theMethod args0 = true := by decide +kernel
set_option maxRecDepth 65536 in
theorem w_heap : heapFits about1 = true := by decide +kernel
set_option maxRecDepth 65536 in
theorem w_runnable : about1.curStatus? = some .runnable := by decide +kernel
set_option maxRecDepth 65536 in
theorem w_alone : about1.alone = true := by decide +kernel
set_option maxRecDepth 65536 in
theorem w_named : about1.methodNamed? x = some theMethod := by decide +kernel
set_option maxRecDepth 65536 in
theorem w_hears : about1.hears theMethod below0 = true := by decide +kernel
set_option maxRecDepth 65536 in
theorem w_ripe : about1.ripe theMethod args0 below0 = true := by decide +kernel
theorem w_running : about1.status = .running := rfl
set_option maxRecDepth 65536 in
theorem w_room : about1.hasRoom e0.platform room_1 = true :=
  launch0.hasRoom_least _ room_1 (by decide +kernel) (by decide +kernel) (by decide +kernel) (by decide +kernel) (by decide +kernel) (by decide +kernel)
theorem allAtoms_all (ts : List Jvm.Cond) (a : Array Jvm.Value) (st : Jvm.State) : (allAtoms ts).before a st = ts.all (fun c => c.before a st) := by
  induction ts with
  | nil => rfl
  | cons c t ih =>
    show (Jvm.Cond.and c (allAtoms t)).before a st = _
    rw [Jvm.Cond.before_and, ih, List.all_cons]
def words1 : List Jvm.Cond := Jvm.Cond.code x code maxLocals ret :: tables_1
/-- a 'code' word, met by the world's own term for the bytes: nothing is compared byte by byte -/
theorem code_word {y : MethodName} {bytes : ByteArray} {mx : Nat} {rt : Option FieldType} {a : Array Value} {s : State} {m : MethodId} {meth : Method} {c : Code} (h1 : s.methodNamed? y = some m) (h2 : s.vm.method? m = some meth) (h3 : meth.code = some c) (h4 : c.code = bytes)
    (h5 : (c.maxLocals == mx && c.exceptionTable.isEmpty && decide (c.maxStack ≤ mostOperands) && decide (meth.sig.returnType = rt) && !meth.locks && decide (parseMethodDescriptor y.desc = some meth.sig)) = true) : (Jvm.Cond.code y bytes mx rt).before a s = true := by
  simp only [Bool.and_eq_true, beq_iff_eq, Bool.not_eq_true', decide_eq_true_eq] at h5
  obtain ⟨⟨⟨⟨⟨g1, g2⟩, g3⟩, g4⟩, g5⟩, g6⟩ := h5
  simp [Cond.before, Cond.holds, Cond.value, h1, h2, h3, h4, g1, g2, g3, g4, g5, g6]
def isCode : Jvm.Cond → Bool
  | .code _ _ _ _ => true
  | _ => false
theorem all_split {L : List Jvm.Cond} {P : Jvm.Cond → Bool} (h1 : L.all (fun c => isCode c || P c) = true) (h2 : ∀ c ∈ L.filter isCode, P c = true) : L.all P = true := by
  refine List.all_eq_true.mpr fun c hc => ?_
  have h := List.all_eq_true.mp h1 c hc
  rcases Bool.eq_false_or_eq_true (isCode c) with hi | hi
  · exact h2 c (List.mem_filter.mpr ⟨hc, hi⟩)
  · simpa [hi] using h
set_option maxRecDepth 65536 in
theorem w_c0 : (Jvm.Cond.code x code maxLocals ret).before args0 about1 = true := code_word (m := ⟨1, 1⟩) (meth := k1m1) (c := k1c1) (by decide +kernel) rfl rfl rfl (by decide +kernel)
set_option maxRecDepth 65536 in
theorem w_c1 : (Jvm.Cond.code ({ cls := "com/example/ereikoussa/ereikoussa/lock/LockMode", name := "sharesWith", desc := "(Lcom/example/ereikoussa/ereikoussa/lock/LockMode;)Z" } : Jvm.MethodName) prog_29_method_5_code (2 : Nat) (Option.some Jvm.ClassFile.FieldType.boolean)).before args0 about1 = true := code_word (m := ⟨6, 0⟩) (meth := k6m0) (c := k6c0) (by decide +kernel) rfl rfl rfl (by decide +kernel)
def codes1 : List Jvm.Cond := [Jvm.Cond.code x code maxLocals ret, Jvm.Cond.code ({ cls := "com/example/ereikoussa/ereikoussa/lock/LockMode", name := "sharesWith", desc := "(Lcom/example/ereikoussa/ereikoussa/lock/LockMode;)Z" } : Jvm.MethodName) prog_29_method_5_code (2 : Nat) (Option.some Jvm.ClassFile.FieldType.boolean)]
set_option maxRecDepth 65536 in
theorem codes_eq : words1.filter isCode = codes1 := rfl
theorem w_codes : ∀ c ∈ words1.filter isCode, c.before args0 about1 = true := by
  rw [codes_eq]
  intro c hc
  simp only [codes1, List.mem_cons, List.not_mem_nil, or_false] at hc
  rcases hc with rfl | rfl
  · exact w_c0
  · exact w_c1
set_option maxRecDepth 65536 in
theorem w_t1 : words1.all (fun c => isCode c || c.before args0 about1) = true := by decide +kernel
theorem w_tables : (allAtoms (Jvm.Cond.code x code maxLocals ret :: tables_1)).before args0 about1 = true := by
  rw [allAtoms_all]
  show words1.all (fun c => c.before args0 about1) = true
  refine all_split ?_ w_codes
  rw [w_t1]
set_option maxRecDepth 65536 in
theorem w_case : (Jvm.Cond.and given_1 narrow_1).before args0 about1 = true := by decide +kernel
theorem w_applies : (headSpec (Jvm.Cond.code x code maxLocals ret :: tables_1) room_1).applies x e0.platform about1 = true :=
  (Spec.applies_iff w_frames).mpr ⟨w_running, w_runnable, w_alone, w_named, w_hears, w_ripe, w_room, w_tables⟩
theorem atStart : AtStart classFile x code maxLocals ret World_1 tables_1 room_1 Calls_1 rest_1 Pre_1 launch0 p0 e0 about1 theMethod args0 below0 :=
  ⟨lists_1, trivial, launch0.admits_env _ _ _, launch0.least_env, fairChoices_fair.cas, fairChoices_fair.clock, w_frames, w_args, w_heap, w_applies, trivial, trivial, w_case⟩
end start1
theorem witness_1 : WitnessClaimed_1 := ⟨start1.p0, start1.e0, start1.about1, start1.theMethod, start1.args0, start1.below0, start1.atStart⟩
end Jvm.Pilot.@@N@@
