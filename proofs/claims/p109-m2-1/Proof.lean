import JvmDerived
import JvmDerived.Pilot.@@N@@Statement
import JvmDerived.Pilot.@@N@@Code
set_option linter.unusedVariables false
set_option linter.unusedSimpArgs false
namespace Jvm.RoadKit
open Sem ClassFile Op Lib Jvm.Stand Jvm.Free Jvm.LawKit
section New
variable {p : Program} {l : Launch} {e : Env} {R : Room} {s : State} {m : MethodId} {args : Array Value} {below : List Frame} {meth : Method} {c : Code} {T : State} {locs : List Loc} {cells slots : Nat}
theorem retI (X : Stand p l e R s m args below meth c T locs cells slots) (hx : p.tables.exec = Jvm.exec) {pc : Nat} {Ls : Array Slot} {z : Int32} {rest : List Value} (hret : meth.sig.returnType = some .int) (hd : decode c.code pc = .ok (.ireturn, 1)) {fs : List Frame}
    (hl : ∀ (f : JFrame) (acts : List Action), f.method = m → f.locked = none → f.entered = [] → (doReturn e (T.setTop f) acts (some (.int z))).1 = T.setFrames fs) : Steps p.tables e below (T.setTop (mkF m pc Ls (.int z :: rest))) (T.setFrames fs) := by
  have hm' : T.vm.method? m = some meth := X.method'
  have hn : narrow .int (.int z) = .int z := rfl
  show Steps p.tables e below (T.setTop { method := m, pc := pc, locals := Ls, stack := _ :: rest, locked := none }) _
  jvm_step X.here [X.here.top, hx, hd, hm', hret, hn]
  first | (intro acts; rw [hl _ acts rfl rfl rfl]) | rw [hl _ _ rfl rfl rfl]
  exact Steps.refl _
end New
end Jvm.RoadKit

namespace Jvm.Pilot.@@N@@
open Jvm Jvm.ClassFile Sem Op Lib Jvm.Free Jvm.Stand Jvm.LawKit Jvm.RoadKit Bundle Jvm.Pilot.@@N@@.Jvm.D
theorem own_fi {t : Term} {a : Addr} {C n d : String} {k : Int32} {args : Array Value} {s : State} (ev : t.eval args s none [] s = some (.ref a)) (h : (Jvm.Cond.eq (.field t C n d) (.int k)).value args s none s [] = some true) : s.fieldOf? a C n d = some (.int k) := by
  obtain ⟨x, y, hx, hy, k1, k2⟩ := cmp_v (Or.inl h)
  have hy' : y = .int k := (Option.some.inj (hy.symm.trans (Term.int_eval k)))
  subst hy'
  cases x with
  | int z =>
    have e : (Jvm.Cond.eq (.field t C n d) (.int k)).value args s none s [] = some (decide (z = k)) := by simp [Cond.value, hx, hy]
    have := gotT e h
    subst this
    rw [← fld_at ev]; exact hx
  | _ => simp [Kin] at k1 k2
theorem own_fn {t : Term} {a : Addr} {C n d : String} {args : Array Value} {s : State} (ev : t.eval args s none [] s = some (.ref a)) (h : (Jvm.Cond.eq (.field t C n d) .null).value args s none s [] = some true) : s.fieldOf? a C n d = some .null := by
  have := null_v h
  rw [fld_at ev] at this; exact this
theorem own_fr {t u : Term} {a b : Addr} {C n d : String} {args : Array Value} {s : State} (ev : t.eval args s none [] s = some (.ref a)) (ev2 : u.eval args s none [] s = some (.ref b)) (h : (Jvm.Cond.eq (.field t C n d) u).value args s none s [] = some true) : s.fieldOf? a C n d = some (.ref b) := by
  obtain ⟨x, y, hx, hy, k1, k2⟩ := cmp_v (Or.inl h)
  have hy' : y = .ref b := (Option.some.inj (hy.symm.trans ev2))
  subst hy'
  have hr : x.isRef = true := by cases x <;> simp [Kin, Value.isRef] at k1 k2 ⊢
  have e := eq_R (args := args) (first := s) (o := none) (s := s) (idx := []) hx hy hr rfl
  have := gotT e h
  subst this
  rw [← fld_at ev]; exact hx
def own_ic (aA aD x : Addr) : Int32 := if x = aA then 1 else (if x = aD then 1 else 0)
theorem own_get (el : Nat → Addr) : ∀ k, k < 39 → ([(.ref (el 0)), (.ref (el 1)), (.ref (el 2)), (.ref (el 3)), (.ref (el 4)), (.ref (el 5)), (.ref (el 6)), (.ref (el 7)), (.ref (el 8)), (.ref (el 9)), (.ref (el 10)), (.ref (el 11)), (.ref (el 12)), (.ref (el 13)), (.ref (el 14)), (.ref (el 15)), (.ref (el 16)), (.ref (el 17)), (.ref (el 18)), (.ref (el 19)), (.ref (el 20)), (.ref (el 21)), (.ref (el 22)), (.ref (el 23)), (.ref (el 24)), (.ref (el 25)), (.ref (el 26)), (.ref (el 27)), (.ref (el 28)), (.ref (el 29)), (.ref (el 30)), (.ref (el 31)), (.ref (el 32)), (.ref (el 33)), (.ref (el 34)), (.ref (el 35)), (.ref (el 36)), (.ref (el 37)), (.ref (el 38))] : List Value).getD k .null = .ref (el k)
  | 0, _ => rfl
  | 1, _ => rfl
  | 2, _ => rfl
  | 3, _ => rfl
  | 4, _ => rfl
  | 5, _ => rfl
  | 6, _ => rfl
  | 7, _ => rfl
  | 8, _ => rfl
  | 9, _ => rfl
  | 10, _ => rfl
  | 11, _ => rfl
  | 12, _ => rfl
  | 13, _ => rfl
  | 14, _ => rfl
  | 15, _ => rfl
  | 16, _ => rfl
  | 17, _ => rfl
  | 18, _ => rfl
  | 19, _ => rfl
  | 20, _ => rfl
  | 21, _ => rfl
  | 22, _ => rfl
  | 23, _ => rfl
  | 24, _ => rfl
  | 25, _ => rfl
  | 26, _ => rfl
  | 27, _ => rfl
  | 28, _ => rfl
  | 29, _ => rfl
  | 30, _ => rfl
  | 31, _ => rfl
  | 32, _ => rfl
  | 33, _ => rfl
  | 34, _ => rfl
  | 35, _ => rfl
  | 36, _ => rfl
  | 37, _ => rfl
  | 38, _ => rfl
  | k + 39, h => absurd h (by omega)
theorem own_law (el : Nat → Addr) (hinj : ∀ j k, j < 39 → k < 39 → el j = el k → j = k) (i e : Int32) (hi : 0 ≤ i.toInt ∧ i.toInt ≤ 38)
    (he : (i = (27 : Int32) ∧ e = (1 : Int32)) ∨ (¬ (i = (27 : Int32)) ∧ i = (28 : Int32) ∧ e = (1 : Int32)) ∨ (¬ (i = (27 : Int32)) ∧ ¬ (i = (28 : Int32)) ∧ e = (0 : Int32))) :
    own_ic (el 28) (el 27) (el i.toNatClampNeg) = e := by
  have z0 : (0 : Int32).toInt = 0 := by decide
  have hn : (i.toNatClampNeg : Int) = i.toInt := (nat_of (by rw [Int32.lt_iff_toInt_lt]; omega)).symm
  have e27 : i = 27 ↔ i.toNatClampNeg = 27 := by
    rw [← Int32.toInt_inj]; have : (27 : Int32).toInt = 27 := by decide
    omega
  have e28 : i = 28 ↔ i.toNatClampNeg = 28 := by
    rw [← Int32.toInt_inj]; have : (28 : Int32).toInt = 28 := by decide
    omega
  generalize i.toNatClampNeg = k at *
  have i28 : el k = el 28 ↔ k = 28 := ⟨fun q => hinj _ _ (by omega) (by omega) q, fun q => by rw [q]⟩
  have i27 : el k = el 27 ↔ k = 27 := ⟨fun q => hinj _ _ (by omega) (by omega) q, fun q => by rw [q]⟩
  unfold own_ic
  simp only [i28, i27]
  rw [e27, e28] at he
  rcases he with ⟨c, rfl⟩ | ⟨c1, c2, rfl⟩ | ⟨c1, c2, rfl⟩
  · rw [if_neg (by omega), if_pos c]
  · rw [if_pos c2]
  · rw [if_neg c2, if_neg c1]
theorem own_rem (b : Int32) : 0 ≤ ((b &&& (2147483647 : Int32)) % (39 : Int32)).toInt ∧ ((b &&& (2147483647 : Int32)) % (39 : Int32)).toInt ≤ 38 := by
  have h1 := c_mask b 2147483647 31 (by decide) (by decide)
  have h2 := (c_irem (b &&& 2147483647) 39 39 (by decide)).1 (by omega)
  rw [h2]; omega
theorem own_idx {i : Int32} (hi : 0 ≤ i.toInt ∧ i.toInt ≤ 38) : ¬ i < 0 ∧ i < (39 : Int32) ∧ i.toNatClampNeg < 39 := by
  have z0 : (0 : Int32).toInt = 0 := by decide
  have z1 : (39 : Int32).toInt = 39 := by decide
  have h0 : ¬ i < 0 := by rw [Int32.lt_iff_toInt_lt]; omega
  refine ⟨h0, ?_, ?_⟩
  · rw [Int32.lt_iff_toInt_lt]; omega
  · have := nat_of h0; omega
theorem pn0 : plainName "com/example/quadvar/quadvar/model/VariantType" = true := by first | (simp [plainName, overriddenIn]; done) | decide +kernel
theorem d1_0 : decode prog_61_method_8_code 0 = .ok (.aload_n 0, 1) := by decide +kernel
theorem d1_1 : decode prog_61_method_8_code 1 = .ok (.getstatic 88, 3) := by decide +kernel
theorem d1_4 : decode prog_61_method_8_code 4 = .ok (.if_acmp .eq 10, 3) := by decide +kernel
theorem d1_14 : decode prog_61_method_8_code 14 = .ok (.iconst 1, 1) := by decide +kernel
theorem d1_15 : decode prog_61_method_8_code 15 = .ok (.goto 4, 3) := by decide +kernel
theorem d1_19 : decode prog_61_method_8_code 19 = .ok (.ireturn, 1) := by decide +kernel
theorem d1_7 : decode prog_61_method_8_code 7 = .ok (.aload_n 0, 1) := by decide +kernel
theorem d1_8 : decode prog_61_method_8_code 8 = .ok (.getstatic 85, 3) := by decide +kernel
theorem d1_11 : decode prog_61_method_8_code 11 = .ok (.if_acmp .ne 7, 3) := by decide +kernel
theorem d1_18 : decode prog_61_method_8_code 18 = .ok (.iconst 0, 1) := by decide +kernel
theorem ef_1 (m : MethodId) (x0 : Addr) : entryFrame m #[(.ref x0)] 1 = mkF m 0 #[.val (.ref x0)] [] := by first | (simp [entryFrame, mkF, argsToLocals, Value.category]; done) | rfl
def Q1 (Z : State) (r0 : Addr) (aA : Addr) (aD : Addr) (h0 : Heap) (n0 : Nat) (v : Option Value) (h : Heap) (L : List Loc) : Prop := v = some (.int (own_ic aA aD r0)) ∧ Fr n0 L ∧ h = h0
set_option maxRecDepth 65536 in
set_option maxHeartbeats 40000000 in
theorem rm1 (l : Launch) (Z : State) (a0 : Array Value) (hw : ∀ d ∈ tables_1, d.before a0 Z = true) (ws : List Jvm.Cond) (r0 : Addr) (aA : Addr) (aD : Addr) (h0 : Heap) (n0 : Nat) (Z0 : n0 ≤ h0.size) (O0 : Old Z n0 h0) (S_ARRAY : Sta Z Z.heap "com/example/quadvar/quadvar/model/VariantType" "ARRAY" "Lcom/example/quadvar/quadvar/model/VariantType;" (.ref aA)) (S_DICTIONARY : Sta Z Z.heap "com/example/quadvar/quadvar/model/VariantType" "DICTIONARY" "Lcom/example/quadvar/quadvar/model/VariantType;" (.ref aD)) :
    MetFree l (⟨"com/example/quadvar/quadvar/model/VariantType", "isContainer", "()Z"⟩ : MethodName) (head1 (Jvm.Cond.code (⟨"com/example/quadvar/quadvar/model/VariantType", "isContainer", "()Z"⟩ : MethodName) prog_61_method_8_code 1 (some .boolean) :: ws) ({ frames := 0, cells := 0, slots := 0, locals := 0 } : Room)) (fun a U => a = #[(.ref r0)] ∧ Z.Warmed39 U.vm ∧ U.heap = h0) (fun _ _ _ _ _ => True) (fun _ U o U' => ∃ v L, o = .returned v ∧ Q1 Z r0 aA aD h0 n0 v U'.heap L ∧ FrameEnd U o U' L ({ frames := 0, cells := 0, slots := 0, locals := 0 } : Room).cells ({ frames := 0, cells := 0, slots := 0, locals := 0 } : Room).slots) := by
  refine MetFree.of_bodySF (plainFor_of_name pn0) hisR ?_
  intro p e s m args below meth c s₁ Bd hml0 hP hK
  obtain ⟨rfl, hZ, hh⟩ := hP
  have hx := Bd.exec
  have hby := Bd.bytes
  have hml : c.maxLocals = 1 := hml0
  have hown : s.vm.findClass "com/example/quadvar/quadvar/model/VariantType" = some m.cls := findClass_of_methodNamed Bd.named
  have hnm := (name_of_methodNamed Bd.named Bd.method).1
  have X0 : Stand p l e ({ frames := 0, cells := 0, slots := 0, locals := 0 } : Room) s m #[(.ref r0)] below meth c s₁ [] 0 0 := Stand.of_body Bd
  have e0 : s₁.heap = h0 := by rw [← hh, Bd.state]; rfl
  have N0 := Fr.nil n0
  have pre0 : ∀ t, Steps p.tables e below (s₁.setTop (mkF m 0 #[rv r0] [])) t → Steps p.tables e below (s₁.setTop (entryFrame m #[(.ref r0)] 1)) t := fun t k => castTop (ef_1 m r0) k
  have pre1 : ∀ t, Steps p.tables e below (s₁.setTop (mkF m 1 #[rv r0] [(.ref r0)])) t → Steps p.tables e below (s₁.setTop (entryFrame m #[(.ref r0)] 1)) t := by
    intro t kt
    refine pre0 _ ?_
    show Steps p.tables e below (s₁.setTop (mkF m 0 #[rv r0] [])) _
    refine XS.aloadN X0.here hx rfl (hb hby d1_0) rfl rfl ?_
    exact kt
  obtain ⟨T2, X2, e2, st2⟩ := getS2 X0 hx hZ hown (host := "") (Or.inl (hw _ (List.mem_of_getElem? (i := 88) rfl))) Via.refl e0 (S_ARRAY.ext (O0.keep (Keep.refl h0 []) all0).2) (g := (mkF m 1 #[rv r0] [(.ref r0)])) rfl (hb hby d1_1)
  have pre3 : ∀ t, Steps p.tables e below (T2.setTop (mkF m 4 #[rv r0] [(.ref aA), (.ref r0)])) t → Steps p.tables e below (s₁.setTop (entryFrame m #[(.ref r0)] 1)) t := by
    intro t kt
    refine pre1 _ ?_
    show Steps p.tables e below (s₁.setTop (mkF m 1 #[rv r0] [(.ref r0)])) _
    refine st2 _ ?_
    exact kt
  by_cases ha4 : r0 = aA
  · have pre4 : ∀ t, Steps p.tables e below (T2.setTop (mkF m 19 #[rv r0] [(.int (1 : Int32))])) t → Steps p.tables e below (s₁.setTop (entryFrame m #[(.ref r0)] 1)) t := by
      intro t kt
      refine pre3 _ ?_
      show Steps p.tables e below (T2.setTop (mkF m 4 #[rv r0] [(.ref aA), (.ref r0)])) _
      refine Jvm.RoadKit.acmp (g := (mkF m 4 #[rv r0] [(.ref aA), (.ref r0)])) X2 hx rfl rfl rfl (pc0 := 4) (pc' := 14) (same := true) rfl (hb hby d1_4) rfl (decide_eq_true (congrArg Value.ref ha4)) (by decide) (by decide) ?_
      show Steps p.tables e below (T2.setTop (mkF m 14 #[rv r0] [])) _
      refine XS.iconst X2.here hx rfl (hb hby d1_14) ?_
      show Steps p.tables e below (T2.setTop (mkF m 15 #[rv r0] [(.int (1 : Int32))])) _
      refine XS.goto X2.here hx rfl (pc0 := 15) (pc' := 19) rfl (hb hby d1_15) (by decide) (by decide) ?_
      exact kt
    obtain ⟨fs, hr, hrun, hended, hW, hsame⟩ := X2.leave (v := some (.int (1 : Int32))) (fun h => by rw [Bd.returns] at h; cases h)
    refine ⟨_, _, pre4 _ ?_, hrun, hended, _, _, rfl, ?_, ⟨_, rfl⟩, hW, hsame.mono (by decide) (by decide)⟩
    · show Steps p.tables e below (T2.setTop (mkF m 19 #[rv r0] [(.int (1 : Int32))])) _
      exact retN X2 hx (t := .boolean) Bd.returns (by simp) (hb hby d1_19) hr
    · show Q1 Z r0 aA aD h0 n0 _ T2.heap _
      rw [e2]
      exact ⟨congrArg (fun z => some (Value.int z)) ((if_pos ha4).trans rfl).symm, N0, rfl⟩
  · have pre5 : ∀ t, Steps p.tables e below (T2.setTop (mkF m 8 #[rv r0] [(.ref r0)])) t → Steps p.tables e below (s₁.setTop (entryFrame m #[(.ref r0)] 1)) t := by
      intro t kt
      refine pre3 _ ?_
      show Steps p.tables e below (T2.setTop (mkF m 4 #[rv r0] [(.ref aA), (.ref r0)])) _
      refine Jvm.RoadKit.acmp (g := (mkF m 4 #[rv r0] [(.ref aA), (.ref r0)])) X2 hx rfl rfl rfl (pc0 := 4) (pc' := 7) (same := false) rfl (hb hby d1_4) rfl (decide_eq_false fun q => ha4 (Value.ref.inj q)) (by decide) (by decide) ?_
      show Steps p.tables e below (T2.setTop (mkF m 7 #[rv r0] [])) _
      refine XS.aloadN X2.here hx rfl (hb hby d1_7) rfl rfl ?_
      exact kt
    obtain ⟨T6, X6, e6, st6⟩ := getS2 X2 hx hZ hown (host := "") (Or.inl (hw _ (List.mem_of_getElem? (i := 89) rfl))) Via.refl e2 (S_DICTIONARY.ext (O0.keep (Keep.refl h0 []) all0).2) (g := (mkF m 8 #[rv r0] [(.ref r0)])) rfl (hb hby d1_8)
    have pre7 : ∀ t, Steps p.tables e below (T6.setTop (mkF m 11 #[rv r0] [(.ref aD), (.ref r0)])) t → Steps p.tables e below (s₁.setTop (entryFrame m #[(.ref r0)] 1)) t := by
      intro t kt
      refine pre5 _ ?_
      show Steps p.tables e below (T2.setTop (mkF m 8 #[rv r0] [(.ref r0)])) _
      refine st6 _ ?_
      exact kt
    by_cases ha11 : r0 = aD
    · have pre8 : ∀ t, Steps p.tables e below (T6.setTop (mkF m 19 #[rv r0] [(.int (1 : Int32))])) t → Steps p.tables e below (s₁.setTop (entryFrame m #[(.ref r0)] 1)) t := by
        intro t kt
        refine pre7 _ ?_
        show Steps p.tables e below (T6.setTop (mkF m 11 #[rv r0] [(.ref aD), (.ref r0)])) _
        refine Jvm.RoadKit.acmp (g := (mkF m 11 #[rv r0] [(.ref aD), (.ref r0)])) X6 hx rfl rfl rfl (pc0 := 11) (pc' := 14) (same := true) rfl (hb hby d1_11) rfl (decide_eq_true (congrArg Value.ref ha11)) (by decide) (by decide) ?_
        show Steps p.tables e below (T6.setTop (mkF m 14 #[rv r0] [])) _
        refine XS.iconst X6.here hx rfl (hb hby d1_14) ?_
        show Steps p.tables e below (T6.setTop (mkF m 15 #[rv r0] [(.int (1 : Int32))])) _
        refine XS.goto X6.here hx rfl (pc0 := 15) (pc' := 19) rfl (hb hby d1_15) (by decide) (by decide) ?_
        exact kt
      obtain ⟨fs, hr, hrun, hended, hW, hsame⟩ := X6.leave (v := some (.int (1 : Int32))) (fun h => by rw [Bd.returns] at h; cases h)
      refine ⟨_, _, pre8 _ ?_, hrun, hended, _, _, rfl, ?_, ⟨_, rfl⟩, hW, hsame.mono (by decide) (by decide)⟩
      · show Steps p.tables e below (T6.setTop (mkF m 19 #[rv r0] [(.int (1 : Int32))])) _
        exact retN X6 hx (t := .boolean) Bd.returns (by simp) (hb hby d1_19) hr
      · show Q1 Z r0 aA aD h0 n0 _ T6.heap _
        rw [e6]
        exact ⟨congrArg (fun z => some (Value.int z)) ((if_neg ha4).trans ((if_pos ha11).trans rfl)).symm, N0, rfl⟩
    · have pre9 : ∀ t, Steps p.tables e below (T6.setTop (mkF m 19 #[rv r0] [(.int (0 : Int32))])) t → Steps p.tables e below (s₁.setTop (entryFrame m #[(.ref r0)] 1)) t := by
        intro t kt
        refine pre7 _ ?_
        show Steps p.tables e below (T6.setTop (mkF m 11 #[rv r0] [(.ref aD), (.ref r0)])) _
        refine Jvm.RoadKit.acmp (g := (mkF m 11 #[rv r0] [(.ref aD), (.ref r0)])) X6 hx rfl rfl rfl (pc0 := 11) (pc' := 18) (same := false) rfl (hb hby d1_11) rfl (decide_eq_false fun q => ha11 (Value.ref.inj q)) (by decide) (by decide) ?_
        show Steps p.tables e below (T6.setTop (mkF m 18 #[rv r0] [])) _
        refine XS.iconst X6.here hx rfl (hb hby d1_18) ?_
        exact kt
      obtain ⟨fs, hr, hrun, hended, hW, hsame⟩ := X6.leave (v := some (.int (0 : Int32))) (fun h => by rw [Bd.returns] at h; cases h)
      refine ⟨_, _, pre9 _ ?_, hrun, hended, _, _, rfl, ?_, ⟨_, rfl⟩, hW, hsame.mono (by decide) (by decide)⟩
      · show Steps p.tables e below (T6.setTop (mkF m 19 #[rv r0] [(.int (0 : Int32))])) _
        exact retN X6 hx (t := .boolean) Bd.returns (by simp) (hb hby d1_19) hr
      · show Q1 Z r0 aA aD h0 n0 _ T6.heap _
        rw [e6]
        exact ⟨congrArg (fun z => some (Value.int z)) ((if_neg ha4).trans ((if_neg ha11).trans rfl)).symm, N0, rfl⟩
theorem pn1 : plainName "com/example/quadvar/quadvar/model/VariantTypeIsContainerPinLaw" = true := by first | (simp [plainName, overriddenIn]; done) | decide +kernel
theorem pd2 : parseMethodDescriptor "()Z" = some ⟨[], some .boolean⟩ := by decide +kernel
theorem ef_0 (m : MethodId) (x0 : Int32) : entryFrame m #[(.int x0)] maxLocals = mkF m 0 #[.val (.int x0), .unset, .unset, .unset] [] := by first | (simp [entryFrame, mkF, argsToLocals, Value.category, maxLocals]; done) | rfl
def Q0 (Z : State) (p0 : Int32) (el : Nat → Addr) (h0 : Heap) (n0 : Nat) (v : Option Value) (h : Heap) (L : List Loc) : Prop := v = some (.int 1) ∧ Fr n0 L
set_option maxRecDepth 65536 in
set_option maxHeartbeats 40000000 in
theorem rm0 (l : Launch) (Z : State) (a0 : Array Value) (hw : ∀ d ∈ tables_1, d.before a0 Z = true) (ws : List Jvm.Cond) (p0 : Int32) (el : Nat → Addr) (h0 : Heap) (n0 : Nat) (Z0 : n0 ≤ h0.size) (O0 : Old Z n0 h0) (S_NIL : Sta Z Z.heap "com/example/quadvar/quadvar/model/VariantType" "NIL" "Lcom/example/quadvar/quadvar/model/VariantType;" (.ref (el 0))) (S_BOOL : Sta Z Z.heap "com/example/quadvar/quadvar/model/VariantType" "BOOL" "Lcom/example/quadvar/quadvar/model/VariantType;" (.ref (el 1))) (S_INT : Sta Z Z.heap "com/example/quadvar/quadvar/model/VariantType" "INT" "Lcom/example/quadvar/quadvar/model/VariantType;" (.ref (el 2))) (S_FLOAT : Sta Z Z.heap "com/example/quadvar/quadvar/model/VariantType" "FLOAT" "Lcom/example/quadvar/quadvar/model/VariantType;" (.ref (el 3))) (S_STRING : Sta Z Z.heap "com/example/quadvar/quadvar/model/VariantType" "STRING" "Lcom/example/quadvar/quadvar/model/VariantType;" (.ref (el 4))) (S_VECTOR2 : Sta Z Z.heap "com/example/quadvar/quadvar/model/VariantType" "VECTOR2" "Lcom/example/quadvar/quadvar/model/VariantType;" (.ref (el 5))) (S_VECTOR2I : Sta Z Z.heap "com/example/quadvar/quadvar/model/VariantType" "VECTOR2I" "Lcom/example/quadvar/quadvar/model/VariantType;" (.ref (el 6))) (S_RECT2 : Sta Z Z.heap "com/example/quadvar/quadvar/model/VariantType" "RECT2" "Lcom/example/quadvar/quadvar/model/VariantType;" (.ref (el 7))) (S_RECT2I : Sta Z Z.heap "com/example/quadvar/quadvar/model/VariantType" "RECT2I" "Lcom/example/quadvar/quadvar/model/VariantType;" (.ref (el 8))) (S_VECTOR3 : Sta Z Z.heap "com/example/quadvar/quadvar/model/VariantType" "VECTOR3" "Lcom/example/quadvar/quadvar/model/VariantType;" (.ref (el 9))) (S_VECTOR3I : Sta Z Z.heap "com/example/quadvar/quadvar/model/VariantType" "VECTOR3I" "Lcom/example/quadvar/quadvar/model/VariantType;" (.ref (el 10))) (S_TRANSFORM2D : Sta Z Z.heap "com/example/quadvar/quadvar/model/VariantType" "TRANSFORM2D" "Lcom/example/quadvar/quadvar/model/VariantType;" (.ref (el 11))) (S_VECTOR4 : Sta Z Z.heap "com/example/quadvar/quadvar/model/VariantType" "VECTOR4" "Lcom/example/quadvar/quadvar/model/VariantType;" (.ref (el 12))) (S_VECTOR4I : Sta Z Z.heap "com/example/quadvar/quadvar/model/VariantType" "VECTOR4I" "Lcom/example/quadvar/quadvar/model/VariantType;" (.ref (el 13))) (S_PLANE : Sta Z Z.heap "com/example/quadvar/quadvar/model/VariantType" "PLANE" "Lcom/example/quadvar/quadvar/model/VariantType;" (.ref (el 14))) (S_QUATERNION : Sta Z Z.heap "com/example/quadvar/quadvar/model/VariantType" "QUATERNION" "Lcom/example/quadvar/quadvar/model/VariantType;" (.ref (el 15))) (S_AABB : Sta Z Z.heap "com/example/quadvar/quadvar/model/VariantType" "AABB" "Lcom/example/quadvar/quadvar/model/VariantType;" (.ref (el 16))) (S_BASIS : Sta Z Z.heap "com/example/quadvar/quadvar/model/VariantType" "BASIS" "Lcom/example/quadvar/quadvar/model/VariantType;" (.ref (el 17))) (S_TRANSFORM3D : Sta Z Z.heap "com/example/quadvar/quadvar/model/VariantType" "TRANSFORM3D" "Lcom/example/quadvar/quadvar/model/VariantType;" (.ref (el 18))) (S_PROJECTION : Sta Z Z.heap "com/example/quadvar/quadvar/model/VariantType" "PROJECTION" "Lcom/example/quadvar/quadvar/model/VariantType;" (.ref (el 19))) (S_COLOR : Sta Z Z.heap "com/example/quadvar/quadvar/model/VariantType" "COLOR" "Lcom/example/quadvar/quadvar/model/VariantType;" (.ref (el 20))) (S_STRING_NAME : Sta Z Z.heap "com/example/quadvar/quadvar/model/VariantType" "STRING_NAME" "Lcom/example/quadvar/quadvar/model/VariantType;" (.ref (el 21))) (S_NODE_PATH : Sta Z Z.heap "com/example/quadvar/quadvar/model/VariantType" "NODE_PATH" "Lcom/example/quadvar/quadvar/model/VariantType;" (.ref (el 22))) (S_RID : Sta Z Z.heap "com/example/quadvar/quadvar/model/VariantType" "RID" "Lcom/example/quadvar/quadvar/model/VariantType;" (.ref (el 23))) (S_OBJECT : Sta Z Z.heap "com/example/quadvar/quadvar/model/VariantType" "OBJECT" "Lcom/example/quadvar/quadvar/model/VariantType;" (.ref (el 24))) (S_CALLABLE : Sta Z Z.heap "com/example/quadvar/quadvar/model/VariantType" "CALLABLE" "Lcom/example/quadvar/quadvar/model/VariantType;" (.ref (el 25))) (S_SIGNAL : Sta Z Z.heap "com/example/quadvar/quadvar/model/VariantType" "SIGNAL" "Lcom/example/quadvar/quadvar/model/VariantType;" (.ref (el 26))) (S_DICTIONARY : Sta Z Z.heap "com/example/quadvar/quadvar/model/VariantType" "DICTIONARY" "Lcom/example/quadvar/quadvar/model/VariantType;" (.ref (el 27))) (S_ARRAY : Sta Z Z.heap "com/example/quadvar/quadvar/model/VariantType" "ARRAY" "Lcom/example/quadvar/quadvar/model/VariantType;" (.ref (el 28))) (S_PACKED_BYTE_ARRAY : Sta Z Z.heap "com/example/quadvar/quadvar/model/VariantType" "PACKED_BYTE_ARRAY" "Lcom/example/quadvar/quadvar/model/VariantType;" (.ref (el 29))) (S_PACKED_INT32_ARRAY : Sta Z Z.heap "com/example/quadvar/quadvar/model/VariantType" "PACKED_INT32_ARRAY" "Lcom/example/quadvar/quadvar/model/VariantType;" (.ref (el 30))) (S_PACKED_INT64_ARRAY : Sta Z Z.heap "com/example/quadvar/quadvar/model/VariantType" "PACKED_INT64_ARRAY" "Lcom/example/quadvar/quadvar/model/VariantType;" (.ref (el 31))) (S_PACKED_FLOAT32_ARRAY : Sta Z Z.heap "com/example/quadvar/quadvar/model/VariantType" "PACKED_FLOAT32_ARRAY" "Lcom/example/quadvar/quadvar/model/VariantType;" (.ref (el 32))) (S_PACKED_FLOAT64_ARRAY : Sta Z Z.heap "com/example/quadvar/quadvar/model/VariantType" "PACKED_FLOAT64_ARRAY" "Lcom/example/quadvar/quadvar/model/VariantType;" (.ref (el 33))) (S_PACKED_STRING_ARRAY : Sta Z Z.heap "com/example/quadvar/quadvar/model/VariantType" "PACKED_STRING_ARRAY" "Lcom/example/quadvar/quadvar/model/VariantType;" (.ref (el 34))) (S_PACKED_VECTOR2_ARRAY : Sta Z Z.heap "com/example/quadvar/quadvar/model/VariantType" "PACKED_VECTOR2_ARRAY" "Lcom/example/quadvar/quadvar/model/VariantType;" (.ref (el 35))) (S_PACKED_VECTOR3_ARRAY : Sta Z Z.heap "com/example/quadvar/quadvar/model/VariantType" "PACKED_VECTOR3_ARRAY" "Lcom/example/quadvar/quadvar/model/VariantType;" (.ref (el 36))) (S_PACKED_COLOR_ARRAY : Sta Z Z.heap "com/example/quadvar/quadvar/model/VariantType" "PACKED_COLOR_ARRAY" "Lcom/example/quadvar/quadvar/model/VariantType;" (.ref (el 37))) (S_PACKED_VECTOR4_ARRAY : Sta Z Z.heap "com/example/quadvar/quadvar/model/VariantType" "PACKED_VECTOR4_ARRAY" "Lcom/example/quadvar/quadvar/model/VariantType;" (.ref (el 38))) (hE : ∀ i, i < 39 → Exa Z Z.heap (el i) "com/example/quadvar/quadvar/model/VariantType") (hinj : ∀ j k, j < 39 → k < 39 → el j = el k → j = k) :
    MetFree l x (head1 (Jvm.Cond.code x code maxLocals ret :: ws) room_1) (fun a U => a = #[(.int p0)] ∧ Z.Warmed39 U.vm ∧ U.heap = h0) (fun _ _ _ _ _ => True) (fun _ U o U' => ∃ v L, o = .returned v ∧ Q0 Z p0 el h0 n0 v U'.heap L ∧ FrameEnd U o U' L room_1.cells room_1.slots) := by
  refine MetFree.of_bodySF (plainFor_of_name pn1) hisR ?_
  intro p e s m args below meth c s₁ Bd hml0 hP hK
  obtain ⟨rfl, hZ, hh⟩ := hP
  have hx := Bd.exec
  have hby := Bd.bytes
  have hml : c.maxLocals = 4 := hml0
  have hown : s.vm.findClass "com/example/quadvar/quadvar/model/VariantTypeIsContainerPinLaw" = some m.cls := findClass_of_methodNamed Bd.named
  have hnm := (name_of_methodNamed Bd.named Bd.method).1
  have X0 : Stand p l e room_1 s m #[(.int p0)] below meth c s₁ [] 0 0 := Stand.of_body Bd
  have e0 : s₁.heap = h0 := by rw [← hh, Bd.state]; rfl
  have N0 := Fr.nil n0
  have pre0 : ∀ t, Steps p.tables e below (s₁.setTop (mkF m 0 #[iv p0, .unset, .unset, .unset] [])) t → Steps p.tables e below (s₁.setTop (entryFrame m #[(.int p0)] maxLocals)) t := fun t k => castTop (ef_0 m p0) k
  have pre1 : ∀ t, Steps p.tables e below (s₁.setTop (mkF m 2 #[iv p0, .unset, .unset, .unset] [(.int (39 : Int32))])) t → Steps p.tables e below (s₁.setTop (entryFrame m #[(.int p0)] maxLocals)) t := by
    intro t kt
    refine pre0 _ ?_
    show Steps p.tables e below (s₁.setTop (mkF m 0 #[iv p0, .unset, .unset, .unset] [])) _
    refine XS.bipush X0.here hx rfl (hb hby at_0) ?_
    exact kt
  obtain ⟨T2, h2, k2, X2, e2, E2, A2, O2, st2⟩ := newR X0 hx hZ hown (hw _ (List.mem_of_getElem? (i := 0) rfl)) (hw _ (List.mem_of_getElem? (i := 1) rfl)) e0 (g := (mkF m 2 #[iv p0, .unset, .unset, .unset] [(.int (39 : Int32))])) rfl (hb hby at_2) rfl (by decide) (cap := 39) (by decide) (by decide) (by decide) (by decide)
  obtain ⟨b2, g2⟩ : ∃ z, z = h0.size := ⟨_, rfl⟩
  rw [← g2] at A2 st2
  have g_b2 : n0 ≤ b2 := Nat.le_trans (Nat.le_trans Z0 (Keep.refl h0 []).1) (Nat.le_of_eq g2.symm)
  have sz_b2 : h0.size ≤ b2 := Nat.le_trans (Keep.refl h0 []).1 (Nat.le_of_eq g2.symm)
  have V_b2 : Arv Z h2 b2 k2 (.object "com/example/quadvar/quadvar/model/VariantType") (39 : Int32) [.null, .null, .null, .null, .null, .null, .null, .null, .null, .null, .null, .null, .null, .null, .null, .null, .null, .null, .null, .null, .null, .null, .null, .null, .null, .null, .null, .null, .null, .null, .null, .null, .null, .null, .null, .null, .null, .null, .null] .null := (Arv.new A2 (by decide)).pad (pad_rep [] .null 39)
  have K2 : Keep h0 h2 [] := (Keep.refl h0 []).ext E2
  have pre3 : ∀ t, Steps p.tables e below (T2.setTop (mkF m 7 #[iv p0, .unset, .unset, .unset] [(.int (0 : Int32)), (.ref b2), (.ref b2)])) t → Steps p.tables e below (s₁.setTop (entryFrame m #[(.int p0)] maxLocals)) t := by
    intro t kt
    refine pre1 _ ?_
    show Steps p.tables e below (s₁.setTop (mkF m 2 #[iv p0, .unset, .unset, .unset] [(.int (39 : Int32))])) _
    refine st2 _ ?_
    show Steps p.tables e below (T2.setTop (mkF m 5 #[iv p0, .unset, .unset, .unset] [(.ref b2)])) _
    refine XS.dup X2.here hx rfl (hb hby at_5) rfl rfl ?_
    show Steps p.tables e below (T2.setTop (mkF m 6 #[iv p0, .unset, .unset, .unset] [(.ref b2), (.ref b2)])) _
    refine XS.iconst X2.here hx rfl (hb hby at_6) ?_
    exact kt
  obtain ⟨T4, X4, e4, st4⟩ := getS2 X2 hx hZ hown (host := "") (Or.inl (hw _ (List.mem_of_getElem? (i := 2) rfl))) Via.refl e2 (S_NIL.ext (O0.keep K2 all0).2) (g := (mkF m 7 #[iv p0, .unset, .unset, .unset] [(.int (0 : Int32)), (.ref b2), (.ref b2)])) rfl (hb hby at_7)
  have pre5 : ∀ t, Steps p.tables e below (T4.setTop (mkF m 10 #[iv p0, .unset, .unset, .unset] [(.ref (el 0)), (.int (0 : Int32)), (.ref b2), (.ref b2)])) t → Steps p.tables e below (s₁.setTop (entryFrame m #[(.int p0)] maxLocals)) t := by
    intro t kt
    refine pre3 _ ?_
    show Steps p.tables e below (T2.setTop (mkF m 7 #[iv p0, .unset, .unset, .unset] [(.int (0 : Int32)), (.ref b2), (.ref b2)])) _
    refine st4 _ ?_
    exact kt
  obtain ⟨cl6, Ar6, q6, S6, M6, H6, G6⟩ := id V_b2
  have hin6 : ¬ ((0 : Int32) < 0 ∨ cl6.slots.size ≤ ((0 : Int32)).toNatClampNeg) := inb_of S6 ⟨by decide, by decide⟩
  obtain ⟨T6, h6, X6, e6, W6, st6⟩ := stR X4 hx hZ e4 Ar6 (j := (0 : Int32)) hin6 rfl (Sto.ofV Ar6 q6 O2 (Ins.self ((hE 0 (by decide)).ext (O0.keep K2 all0).2))) (g := (mkF m 10 #[iv p0, .unset, .unset, .unset] [(.ref (el 0)), (.int (0 : Int32)), (.ref b2), (.ref b2)])) rfl rfl (hb hby at_10)
  have V6 : Arv Z h6 b2 k2 (.object "com/example/quadvar/quadvar/model/VariantType") (39 : Int32) [(.ref (el 0)), .null, .null, .null, .null, .null, .null, .null, .null, .null, .null, .null, .null, .null, .null, .null, .null, .null, .null, .null, .null, .null, .null, .null, .null, .null, .null, .null, .null, .null, .null, .null, .null, .null, .null, .null, .null, .null, .null] .null := Arv.set Ar6 q6 S6 M6 H6 G6 rfl W6 0 rfl (Nat.le_of_ble_eq_true rfl)
  have K6 : Keep h0 h6 [] := K2.wr W6 (Or.inr sz_b2)
  have N6 := Fr.snoc X6 N0 g_b2
  have pre7 : ∀ t, Steps p.tables e below (T6.setTop (mkF m 13 #[iv p0, .unset, .unset, .unset] [(.int (1 : Int32)), (.ref b2), (.ref b2)])) t → Steps p.tables e below (s₁.setTop (entryFrame m #[(.int p0)] maxLocals)) t := by
    intro t kt
    refine pre5 _ ?_
    show Steps p.tables e below (T4.setTop (mkF m 10 #[iv p0, .unset, .unset, .unset] [(.ref (el 0)), (.int (0 : Int32)), (.ref b2), (.ref b2)])) _
    refine st6 _ ?_
    show Steps p.tables e below (T6.setTop (mkF m 11 #[iv p0, .unset, .unset, .unset] [(.ref b2)])) _
    refine XS.dup X6.here hx rfl (hb hby at_11) rfl rfl ?_
    show Steps p.tables e below (T6.setTop (mkF m 12 #[iv p0, .unset, .unset, .unset] [(.ref b2), (.ref b2)])) _
    refine XS.iconst X6.here hx rfl (hb hby at_12) ?_
    exact kt
  obtain ⟨T8, X8, e8, st8⟩ := getS2 X6 hx hZ hown (host := "") (Or.inl (hw _ (List.mem_of_getElem? (i := 6) rfl))) Via.refl e6 (S_BOOL.ext (O0.keep K6 all0).2) (g := (mkF m 13 #[iv p0, .unset, .unset, .unset] [(.int (1 : Int32)), (.ref b2), (.ref b2)])) rfl (hb hby at_13)
  have pre9 : ∀ t, Steps p.tables e below (T8.setTop (mkF m 16 #[iv p0, .unset, .unset, .unset] [(.ref (el 1)), (.int (1 : Int32)), (.ref b2), (.ref b2)])) t → Steps p.tables e below (s₁.setTop (entryFrame m #[(.int p0)] maxLocals)) t := by
    intro t kt
    refine pre7 _ ?_
    show Steps p.tables e below (T6.setTop (mkF m 13 #[iv p0, .unset, .unset, .unset] [(.int (1 : Int32)), (.ref b2), (.ref b2)])) _
    refine st8 _ ?_
    exact kt
  obtain ⟨cl10, Ar10, q10, S10, M10, H10, G10⟩ := id V6
  have hin10 : ¬ ((1 : Int32) < 0 ∨ cl10.slots.size ≤ ((1 : Int32)).toNatClampNeg) := inb_of S10 ⟨by decide, by decide⟩
  obtain ⟨T10, h10, X10, e10, W10, st10⟩ := stR X8 hx hZ e8 Ar10 (j := (1 : Int32)) hin10 rfl (Sto.ofV Ar10 q10 O2 (Ins.self ((hE 1 (by decide)).ext (O0.keep K6 all0).2))) (g := (mkF m 16 #[iv p0, .unset, .unset, .unset] [(.ref (el 1)), (.int (1 : Int32)), (.ref b2), (.ref b2)])) rfl rfl (hb hby at_16)
  have V10 : Arv Z h10 b2 k2 (.object "com/example/quadvar/quadvar/model/VariantType") (39 : Int32) [(.ref (el 0)), (.ref (el 1)), .null, .null, .null, .null, .null, .null, .null, .null, .null, .null, .null, .null, .null, .null, .null, .null, .null, .null, .null, .null, .null, .null, .null, .null, .null, .null, .null, .null, .null, .null, .null, .null, .null, .null, .null, .null, .null] .null := Arv.set Ar10 q10 S10 M10 H10 G10 rfl W10 1 rfl (Nat.le_of_ble_eq_true rfl)
  have K10 : Keep h0 h10 [] := K6.wr W10 (Or.inr sz_b2)
  have N10 := Fr.snoc X10 N6 g_b2
  have pre11 : ∀ t, Steps p.tables e below (T10.setTop (mkF m 19 #[iv p0, .unset, .unset, .unset] [(.int (2 : Int32)), (.ref b2), (.ref b2)])) t → Steps p.tables e below (s₁.setTop (entryFrame m #[(.int p0)] maxLocals)) t := by
    intro t kt
    refine pre9 _ ?_
    show Steps p.tables e below (T8.setTop (mkF m 16 #[iv p0, .unset, .unset, .unset] [(.ref (el 1)), (.int (1 : Int32)), (.ref b2), (.ref b2)])) _
    refine st10 _ ?_
    show Steps p.tables e below (T10.setTop (mkF m 17 #[iv p0, .unset, .unset, .unset] [(.ref b2)])) _
    refine XS.dup X10.here hx rfl (hb hby at_17) rfl rfl ?_
    show Steps p.tables e below (T10.setTop (mkF m 18 #[iv p0, .unset, .unset, .unset] [(.ref b2), (.ref b2)])) _
    refine XS.iconst X10.here hx rfl (hb hby at_18) ?_
    exact kt
  obtain ⟨T12, X12, e12, st12⟩ := getS2 X10 hx hZ hown (host := "") (Or.inl (hw _ (List.mem_of_getElem? (i := 8) rfl))) Via.refl e10 (S_INT.ext (O0.keep K10 all0).2) (g := (mkF m 19 #[iv p0, .unset, .unset, .unset] [(.int (2 : Int32)), (.ref b2), (.ref b2)])) rfl (hb hby at_19)
  have pre13 : ∀ t, Steps p.tables e below (T12.setTop (mkF m 22 #[iv p0, .unset, .unset, .unset] [(.ref (el 2)), (.int (2 : Int32)), (.ref b2), (.ref b2)])) t → Steps p.tables e below (s₁.setTop (entryFrame m #[(.int p0)] maxLocals)) t := by
    intro t kt
    refine pre11 _ ?_
    show Steps p.tables e below (T10.setTop (mkF m 19 #[iv p0, .unset, .unset, .unset] [(.int (2 : Int32)), (.ref b2), (.ref b2)])) _
    refine st12 _ ?_
    exact kt
  obtain ⟨cl14, Ar14, q14, S14, M14, H14, G14⟩ := id V10
  have hin14 : ¬ ((2 : Int32) < 0 ∨ cl14.slots.size ≤ ((2 : Int32)).toNatClampNeg) := inb_of S14 ⟨by decide, by decide⟩
  obtain ⟨T14, h14, X14, e14, W14, st14⟩ := stR X12 hx hZ e12 Ar14 (j := (2 : Int32)) hin14 rfl (Sto.ofV Ar14 q14 O2 (Ins.self ((hE 2 (by decide)).ext (O0.keep K10 all0).2))) (g := (mkF m 22 #[iv p0, .unset, .unset, .unset] [(.ref (el 2)), (.int (2 : Int32)), (.ref b2), (.ref b2)])) rfl rfl (hb hby at_22)
  have V14 : Arv Z h14 b2 k2 (.object "com/example/quadvar/quadvar/model/VariantType") (39 : Int32) [(.ref (el 0)), (.ref (el 1)), (.ref (el 2)), .null, .null, .null, .null, .null, .null, .null, .null, .null, .null, .null, .null, .null, .null, .null, .null, .null, .null, .null, .null, .null, .null, .null, .null, .null, .null, .null, .null, .null, .null, .null, .null, .null, .null, .null, .null] .null := Arv.set Ar14 q14 S14 M14 H14 G14 rfl W14 2 rfl (Nat.le_of_ble_eq_true rfl)
  have K14 : Keep h0 h14 [] := K10.wr W14 (Or.inr sz_b2)
  have N14 := Fr.snoc X14 N10 g_b2
  have pre15 : ∀ t, Steps p.tables e below (T14.setTop (mkF m 25 #[iv p0, .unset, .unset, .unset] [(.int (3 : Int32)), (.ref b2), (.ref b2)])) t → Steps p.tables e below (s₁.setTop (entryFrame m #[(.int p0)] maxLocals)) t := by
    intro t kt
    refine pre13 _ ?_
    show Steps p.tables e below (T12.setTop (mkF m 22 #[iv p0, .unset, .unset, .unset] [(.ref (el 2)), (.int (2 : Int32)), (.ref b2), (.ref b2)])) _
    refine st14 _ ?_
    show Steps p.tables e below (T14.setTop (mkF m 23 #[iv p0, .unset, .unset, .unset] [(.ref b2)])) _
    refine XS.dup X14.here hx rfl (hb hby at_23) rfl rfl ?_
    show Steps p.tables e below (T14.setTop (mkF m 24 #[iv p0, .unset, .unset, .unset] [(.ref b2), (.ref b2)])) _
    refine XS.iconst X14.here hx rfl (hb hby at_24) ?_
    exact kt
  obtain ⟨T16, X16, e16, st16⟩ := getS2 X14 hx hZ hown (host := "") (Or.inl (hw _ (List.mem_of_getElem? (i := 10) rfl))) Via.refl e14 (S_FLOAT.ext (O0.keep K14 all0).2) (g := (mkF m 25 #[iv p0, .unset, .unset, .unset] [(.int (3 : Int32)), (.ref b2), (.ref b2)])) rfl (hb hby at_25)
  have pre17 : ∀ t, Steps p.tables e below (T16.setTop (mkF m 28 #[iv p0, .unset, .unset, .unset] [(.ref (el 3)), (.int (3 : Int32)), (.ref b2), (.ref b2)])) t → Steps p.tables e below (s₁.setTop (entryFrame m #[(.int p0)] maxLocals)) t := by
    intro t kt
    refine pre15 _ ?_
    show Steps p.tables e below (T14.setTop (mkF m 25 #[iv p0, .unset, .unset, .unset] [(.int (3 : Int32)), (.ref b2), (.ref b2)])) _
    refine st16 _ ?_
    exact kt
  obtain ⟨cl18, Ar18, q18, S18, M18, H18, G18⟩ := id V14
  have hin18 : ¬ ((3 : Int32) < 0 ∨ cl18.slots.size ≤ ((3 : Int32)).toNatClampNeg) := inb_of S18 ⟨by decide, by decide⟩
  obtain ⟨T18, h18, X18, e18, W18, st18⟩ := stR X16 hx hZ e16 Ar18 (j := (3 : Int32)) hin18 rfl (Sto.ofV Ar18 q18 O2 (Ins.self ((hE 3 (by decide)).ext (O0.keep K14 all0).2))) (g := (mkF m 28 #[iv p0, .unset, .unset, .unset] [(.ref (el 3)), (.int (3 : Int32)), (.ref b2), (.ref b2)])) rfl rfl (hb hby at_28)
  have V18 : Arv Z h18 b2 k2 (.object "com/example/quadvar/quadvar/model/VariantType") (39 : Int32) [(.ref (el 0)), (.ref (el 1)), (.ref (el 2)), (.ref (el 3)), .null, .null, .null, .null, .null, .null, .null, .null, .null, .null, .null, .null, .null, .null, .null, .null, .null, .null, .null, .null, .null, .null, .null, .null, .null, .null, .null, .null, .null, .null, .null, .null, .null, .null, .null] .null := Arv.set Ar18 q18 S18 M18 H18 G18 rfl W18 3 rfl (Nat.le_of_ble_eq_true rfl)
  have K18 : Keep h0 h18 [] := K14.wr W18 (Or.inr sz_b2)
  have N18 := Fr.snoc X18 N14 g_b2
  have pre19 : ∀ t, Steps p.tables e below (T18.setTop (mkF m 31 #[iv p0, .unset, .unset, .unset] [(.int (4 : Int32)), (.ref b2), (.ref b2)])) t → Steps p.tables e below (s₁.setTop (entryFrame m #[(.int p0)] maxLocals)) t := by
    intro t kt
    refine pre17 _ ?_
    show Steps p.tables e below (T16.setTop (mkF m 28 #[iv p0, .unset, .unset, .unset] [(.ref (el 3)), (.int (3 : Int32)), (.ref b2), (.ref b2)])) _
    refine st18 _ ?_
    show Steps p.tables e below (T18.setTop (mkF m 29 #[iv p0, .unset, .unset, .unset] [(.ref b2)])) _
    refine XS.dup X18.here hx rfl (hb hby at_29) rfl rfl ?_
    show Steps p.tables e below (T18.setTop (mkF m 30 #[iv p0, .unset, .unset, .unset] [(.ref b2), (.ref b2)])) _
    refine XS.iconst X18.here hx rfl (hb hby at_30) ?_
    exact kt
  obtain ⟨T20, X20, e20, st20⟩ := getS2 X18 hx hZ hown (host := "") (Or.inl (hw _ (List.mem_of_getElem? (i := 12) rfl))) Via.refl e18 (S_STRING.ext (O0.keep K18 all0).2) (g := (mkF m 31 #[iv p0, .unset, .unset, .unset] [(.int (4 : Int32)), (.ref b2), (.ref b2)])) rfl (hb hby at_31)
  have pre21 : ∀ t, Steps p.tables e below (T20.setTop (mkF m 34 #[iv p0, .unset, .unset, .unset] [(.ref (el 4)), (.int (4 : Int32)), (.ref b2), (.ref b2)])) t → Steps p.tables e below (s₁.setTop (entryFrame m #[(.int p0)] maxLocals)) t := by
    intro t kt
    refine pre19 _ ?_
    show Steps p.tables e below (T18.setTop (mkF m 31 #[iv p0, .unset, .unset, .unset] [(.int (4 : Int32)), (.ref b2), (.ref b2)])) _
    refine st20 _ ?_
    exact kt
  obtain ⟨cl22, Ar22, q22, S22, M22, H22, G22⟩ := id V18
  have hin22 : ¬ ((4 : Int32) < 0 ∨ cl22.slots.size ≤ ((4 : Int32)).toNatClampNeg) := inb_of S22 ⟨by decide, by decide⟩
  obtain ⟨T22, h22, X22, e22, W22, st22⟩ := stR X20 hx hZ e20 Ar22 (j := (4 : Int32)) hin22 rfl (Sto.ofV Ar22 q22 O2 (Ins.self ((hE 4 (by decide)).ext (O0.keep K18 all0).2))) (g := (mkF m 34 #[iv p0, .unset, .unset, .unset] [(.ref (el 4)), (.int (4 : Int32)), (.ref b2), (.ref b2)])) rfl rfl (hb hby at_34)
  have V22 : Arv Z h22 b2 k2 (.object "com/example/quadvar/quadvar/model/VariantType") (39 : Int32) [(.ref (el 0)), (.ref (el 1)), (.ref (el 2)), (.ref (el 3)), (.ref (el 4)), .null, .null, .null, .null, .null, .null, .null, .null, .null, .null, .null, .null, .null, .null, .null, .null, .null, .null, .null, .null, .null, .null, .null, .null, .null, .null, .null, .null, .null, .null, .null, .null, .null, .null] .null := Arv.set Ar22 q22 S22 M22 H22 G22 rfl W22 4 rfl (Nat.le_of_ble_eq_true rfl)
  have K22 : Keep h0 h22 [] := K18.wr W22 (Or.inr sz_b2)
  have N22 := Fr.snoc X22 N18 g_b2
  have pre23 : ∀ t, Steps p.tables e below (T22.setTop (mkF m 37 #[iv p0, .unset, .unset, .unset] [(.int (5 : Int32)), (.ref b2), (.ref b2)])) t → Steps p.tables e below (s₁.setTop (entryFrame m #[(.int p0)] maxLocals)) t := by
    intro t kt
    refine pre21 _ ?_
    show Steps p.tables e below (T20.setTop (mkF m 34 #[iv p0, .unset, .unset, .unset] [(.ref (el 4)), (.int (4 : Int32)), (.ref b2), (.ref b2)])) _
    refine st22 _ ?_
    show Steps p.tables e below (T22.setTop (mkF m 35 #[iv p0, .unset, .unset, .unset] [(.ref b2)])) _
    refine XS.dup X22.here hx rfl (hb hby at_35) rfl rfl ?_
    show Steps p.tables e below (T22.setTop (mkF m 36 #[iv p0, .unset, .unset, .unset] [(.ref b2), (.ref b2)])) _
    refine XS.iconst X22.here hx rfl (hb hby at_36) ?_
    exact kt
  obtain ⟨T24, X24, e24, st24⟩ := getS2 X22 hx hZ hown (host := "") (Or.inl (hw _ (List.mem_of_getElem? (i := 14) rfl))) Via.refl e22 (S_VECTOR2.ext (O0.keep K22 all0).2) (g := (mkF m 37 #[iv p0, .unset, .unset, .unset] [(.int (5 : Int32)), (.ref b2), (.ref b2)])) rfl (hb hby at_37)
  have pre25 : ∀ t, Steps p.tables e below (T24.setTop (mkF m 40 #[iv p0, .unset, .unset, .unset] [(.ref (el 5)), (.int (5 : Int32)), (.ref b2), (.ref b2)])) t → Steps p.tables e below (s₁.setTop (entryFrame m #[(.int p0)] maxLocals)) t := by
    intro t kt
    refine pre23 _ ?_
    show Steps p.tables e below (T22.setTop (mkF m 37 #[iv p0, .unset, .unset, .unset] [(.int (5 : Int32)), (.ref b2), (.ref b2)])) _
    refine st24 _ ?_
    exact kt
  obtain ⟨cl26, Ar26, q26, S26, M26, H26, G26⟩ := id V22
  have hin26 : ¬ ((5 : Int32) < 0 ∨ cl26.slots.size ≤ ((5 : Int32)).toNatClampNeg) := inb_of S26 ⟨by decide, by decide⟩
  obtain ⟨T26, h26, X26, e26, W26, st26⟩ := stR X24 hx hZ e24 Ar26 (j := (5 : Int32)) hin26 rfl (Sto.ofV Ar26 q26 O2 (Ins.self ((hE 5 (by decide)).ext (O0.keep K22 all0).2))) (g := (mkF m 40 #[iv p0, .unset, .unset, .unset] [(.ref (el 5)), (.int (5 : Int32)), (.ref b2), (.ref b2)])) rfl rfl (hb hby at_40)
  have V26 : Arv Z h26 b2 k2 (.object "com/example/quadvar/quadvar/model/VariantType") (39 : Int32) [(.ref (el 0)), (.ref (el 1)), (.ref (el 2)), (.ref (el 3)), (.ref (el 4)), (.ref (el 5)), .null, .null, .null, .null, .null, .null, .null, .null, .null, .null, .null, .null, .null, .null, .null, .null, .null, .null, .null, .null, .null, .null, .null, .null, .null, .null, .null, .null, .null, .null, .null, .null, .null] .null := Arv.set Ar26 q26 S26 M26 H26 G26 rfl W26 5 rfl (Nat.le_of_ble_eq_true rfl)
  have K26 : Keep h0 h26 [] := K22.wr W26 (Or.inr sz_b2)
  have N26 := Fr.snoc X26 N22 g_b2
  have pre27 : ∀ t, Steps p.tables e below (T26.setTop (mkF m 44 #[iv p0, .unset, .unset, .unset] [(.int (6 : Int32)), (.ref b2), (.ref b2)])) t → Steps p.tables e below (s₁.setTop (entryFrame m #[(.int p0)] maxLocals)) t := by
    intro t kt
    refine pre25 _ ?_
    show Steps p.tables e below (T24.setTop (mkF m 40 #[iv p0, .unset, .unset, .unset] [(.ref (el 5)), (.int (5 : Int32)), (.ref b2), (.ref b2)])) _
    refine st26 _ ?_
    show Steps p.tables e below (T26.setTop (mkF m 41 #[iv p0, .unset, .unset, .unset] [(.ref b2)])) _
    refine XS.dup X26.here hx rfl (hb hby at_41) rfl rfl ?_
    show Steps p.tables e below (T26.setTop (mkF m 42 #[iv p0, .unset, .unset, .unset] [(.ref b2), (.ref b2)])) _
    refine XS.bipush X26.here hx rfl (hb hby at_42) ?_
    exact kt
  obtain ⟨T28, X28, e28, st28⟩ := getS2 X26 hx hZ hown (host := "") (Or.inl (hw _ (List.mem_of_getElem? (i := 16) rfl))) Via.refl e26 (S_VECTOR2I.ext (O0.keep K26 all0).2) (g := (mkF m 44 #[iv p0, .unset, .unset, .unset] [(.int (6 : Int32)), (.ref b2), (.ref b2)])) rfl (hb hby at_44)
  have pre29 : ∀ t, Steps p.tables e below (T28.setTop (mkF m 47 #[iv p0, .unset, .unset, .unset] [(.ref (el 6)), (.int (6 : Int32)), (.ref b2), (.ref b2)])) t → Steps p.tables e below (s₁.setTop (entryFrame m #[(.int p0)] maxLocals)) t := by
    intro t kt
    refine pre27 _ ?_
    show Steps p.tables e below (T26.setTop (mkF m 44 #[iv p0, .unset, .unset, .unset] [(.int (6 : Int32)), (.ref b2), (.ref b2)])) _
    refine st28 _ ?_
    exact kt
  obtain ⟨cl30, Ar30, q30, S30, M30, H30, G30⟩ := id V26
  have hin30 : ¬ ((6 : Int32) < 0 ∨ cl30.slots.size ≤ ((6 : Int32)).toNatClampNeg) := inb_of S30 ⟨by decide, by decide⟩
  obtain ⟨T30, h30, X30, e30, W30, st30⟩ := stR X28 hx hZ e28 Ar30 (j := (6 : Int32)) hin30 rfl (Sto.ofV Ar30 q30 O2 (Ins.self ((hE 6 (by decide)).ext (O0.keep K26 all0).2))) (g := (mkF m 47 #[iv p0, .unset, .unset, .unset] [(.ref (el 6)), (.int (6 : Int32)), (.ref b2), (.ref b2)])) rfl rfl (hb hby at_47)
  have V30 : Arv Z h30 b2 k2 (.object "com/example/quadvar/quadvar/model/VariantType") (39 : Int32) [(.ref (el 0)), (.ref (el 1)), (.ref (el 2)), (.ref (el 3)), (.ref (el 4)), (.ref (el 5)), (.ref (el 6)), .null, .null, .null, .null, .null, .null, .null, .null, .null, .null, .null, .null, .null, .null, .null, .null, .null, .null, .null, .null, .null, .null, .null, .null, .null, .null, .null, .null, .null, .null, .null, .null] .null := Arv.set Ar30 q30 S30 M30 H30 G30 rfl W30 6 rfl (Nat.le_of_ble_eq_true rfl)
  have K30 : Keep h0 h30 [] := K26.wr W30 (Or.inr sz_b2)
  have N30 := Fr.snoc X30 N26 g_b2
  have pre31 : ∀ t, Steps p.tables e below (T30.setTop (mkF m 51 #[iv p0, .unset, .unset, .unset] [(.int (7 : Int32)), (.ref b2), (.ref b2)])) t → Steps p.tables e below (s₁.setTop (entryFrame m #[(.int p0)] maxLocals)) t := by
    intro t kt
    refine pre29 _ ?_
    show Steps p.tables e below (T28.setTop (mkF m 47 #[iv p0, .unset, .unset, .unset] [(.ref (el 6)), (.int (6 : Int32)), (.ref b2), (.ref b2)])) _
    refine st30 _ ?_
    show Steps p.tables e below (T30.setTop (mkF m 48 #[iv p0, .unset, .unset, .unset] [(.ref b2)])) _
    refine XS.dup X30.here hx rfl (hb hby at_48) rfl rfl ?_
    show Steps p.tables e below (T30.setTop (mkF m 49 #[iv p0, .unset, .unset, .unset] [(.ref b2), (.ref b2)])) _
    refine XS.bipush X30.here hx rfl (hb hby at_49) ?_
    exact kt
  obtain ⟨T32, X32, e32, st32⟩ := getS2 X30 hx hZ hown (host := "") (Or.inl (hw _ (List.mem_of_getElem? (i := 18) rfl))) Via.refl e30 (S_RECT2.ext (O0.keep K30 all0).2) (g := (mkF m 51 #[iv p0, .unset, .unset, .unset] [(.int (7 : Int32)), (.ref b2), (.ref b2)])) rfl (hb hby at_51)
  have pre33 : ∀ t, Steps p.tables e below (T32.setTop (mkF m 54 #[iv p0, .unset, .unset, .unset] [(.ref (el 7)), (.int (7 : Int32)), (.ref b2), (.ref b2)])) t → Steps p.tables e below (s₁.setTop (entryFrame m #[(.int p0)] maxLocals)) t := by
    intro t kt
    refine pre31 _ ?_
    show Steps p.tables e below (T30.setTop (mkF m 51 #[iv p0, .unset, .unset, .unset] [(.int (7 : Int32)), (.ref b2), (.ref b2)])) _
    refine st32 _ ?_
    exact kt
  obtain ⟨cl34, Ar34, q34, S34, M34, H34, G34⟩ := id V30
  have hin34 : ¬ ((7 : Int32) < 0 ∨ cl34.slots.size ≤ ((7 : Int32)).toNatClampNeg) := inb_of S34 ⟨by decide, by decide⟩
  obtain ⟨T34, h34, X34, e34, W34, st34⟩ := stR X32 hx hZ e32 Ar34 (j := (7 : Int32)) hin34 rfl (Sto.ofV Ar34 q34 O2 (Ins.self ((hE 7 (by decide)).ext (O0.keep K30 all0).2))) (g := (mkF m 54 #[iv p0, .unset, .unset, .unset] [(.ref (el 7)), (.int (7 : Int32)), (.ref b2), (.ref b2)])) rfl rfl (hb hby at_54)
  have V34 : Arv Z h34 b2 k2 (.object "com/example/quadvar/quadvar/model/VariantType") (39 : Int32) [(.ref (el 0)), (.ref (el 1)), (.ref (el 2)), (.ref (el 3)), (.ref (el 4)), (.ref (el 5)), (.ref (el 6)), (.ref (el 7)), .null, .null, .null, .null, .null, .null, .null, .null, .null, .null, .null, .null, .null, .null, .null, .null, .null, .null, .null, .null, .null, .null, .null, .null, .null, .null, .null, .null, .null, .null, .null] .null := Arv.set Ar34 q34 S34 M34 H34 G34 rfl W34 7 rfl (Nat.le_of_ble_eq_true rfl)
  have K34 : Keep h0 h34 [] := K30.wr W34 (Or.inr sz_b2)
  have N34 := Fr.snoc X34 N30 g_b2
  have pre35 : ∀ t, Steps p.tables e below (T34.setTop (mkF m 58 #[iv p0, .unset, .unset, .unset] [(.int (8 : Int32)), (.ref b2), (.ref b2)])) t → Steps p.tables e below (s₁.setTop (entryFrame m #[(.int p0)] maxLocals)) t := by
    intro t kt
    refine pre33 _ ?_
    show Steps p.tables e below (T32.setTop (mkF m 54 #[iv p0, .unset, .unset, .unset] [(.ref (el 7)), (.int (7 : Int32)), (.ref b2), (.ref b2)])) _
    refine st34 _ ?_
    show Steps p.tables e below (T34.setTop (mkF m 55 #[iv p0, .unset, .unset, .unset] [(.ref b2)])) _
    refine XS.dup X34.here hx rfl (hb hby at_55) rfl rfl ?_
    show Steps p.tables e below (T34.setTop (mkF m 56 #[iv p0, .unset, .unset, .unset] [(.ref b2), (.ref b2)])) _
    refine XS.bipush X34.here hx rfl (hb hby at_56) ?_
    exact kt
  obtain ⟨T36, X36, e36, st36⟩ := getS2 X34 hx hZ hown (host := "") (Or.inl (hw _ (List.mem_of_getElem? (i := 20) rfl))) Via.refl e34 (S_RECT2I.ext (O0.keep K34 all0).2) (g := (mkF m 58 #[iv p0, .unset, .unset, .unset] [(.int (8 : Int32)), (.ref b2), (.ref b2)])) rfl (hb hby at_58)
  have pre37 : ∀ t, Steps p.tables e below (T36.setTop (mkF m 61 #[iv p0, .unset, .unset, .unset] [(.ref (el 8)), (.int (8 : Int32)), (.ref b2), (.ref b2)])) t → Steps p.tables e below (s₁.setTop (entryFrame m #[(.int p0)] maxLocals)) t := by
    intro t kt
    refine pre35 _ ?_
    show Steps p.tables e below (T34.setTop (mkF m 58 #[iv p0, .unset, .unset, .unset] [(.int (8 : Int32)), (.ref b2), (.ref b2)])) _
    refine st36 _ ?_
    exact kt
  obtain ⟨cl38, Ar38, q38, S38, M38, H38, G38⟩ := id V34
  have hin38 : ¬ ((8 : Int32) < 0 ∨ cl38.slots.size ≤ ((8 : Int32)).toNatClampNeg) := inb_of S38 ⟨by decide, by decide⟩
  obtain ⟨T38, h38, X38, e38, W38, st38⟩ := stR X36 hx hZ e36 Ar38 (j := (8 : Int32)) hin38 rfl (Sto.ofV Ar38 q38 O2 (Ins.self ((hE 8 (by decide)).ext (O0.keep K34 all0).2))) (g := (mkF m 61 #[iv p0, .unset, .unset, .unset] [(.ref (el 8)), (.int (8 : Int32)), (.ref b2), (.ref b2)])) rfl rfl (hb hby at_61)
  have V38 : Arv Z h38 b2 k2 (.object "com/example/quadvar/quadvar/model/VariantType") (39 : Int32) [(.ref (el 0)), (.ref (el 1)), (.ref (el 2)), (.ref (el 3)), (.ref (el 4)), (.ref (el 5)), (.ref (el 6)), (.ref (el 7)), (.ref (el 8)), .null, .null, .null, .null, .null, .null, .null, .null, .null, .null, .null, .null, .null, .null, .null, .null, .null, .null, .null, .null, .null, .null, .null, .null, .null, .null, .null, .null, .null, .null] .null := Arv.set Ar38 q38 S38 M38 H38 G38 rfl W38 8 rfl (Nat.le_of_ble_eq_true rfl)
  have K38 : Keep h0 h38 [] := K34.wr W38 (Or.inr sz_b2)
  have N38 := Fr.snoc X38 N34 g_b2
  have pre39 : ∀ t, Steps p.tables e below (T38.setTop (mkF m 65 #[iv p0, .unset, .unset, .unset] [(.int (9 : Int32)), (.ref b2), (.ref b2)])) t → Steps p.tables e below (s₁.setTop (entryFrame m #[(.int p0)] maxLocals)) t := by
    intro t kt
    refine pre37 _ ?_
    show Steps p.tables e below (T36.setTop (mkF m 61 #[iv p0, .unset, .unset, .unset] [(.ref (el 8)), (.int (8 : Int32)), (.ref b2), (.ref b2)])) _
    refine st38 _ ?_
    show Steps p.tables e below (T38.setTop (mkF m 62 #[iv p0, .unset, .unset, .unset] [(.ref b2)])) _
    refine XS.dup X38.here hx rfl (hb hby at_62) rfl rfl ?_
    show Steps p.tables e below (T38.setTop (mkF m 63 #[iv p0, .unset, .unset, .unset] [(.ref b2), (.ref b2)])) _
    refine XS.bipush X38.here hx rfl (hb hby at_63) ?_
    exact kt
  obtain ⟨T40, X40, e40, st40⟩ := getS2 X38 hx hZ hown (host := "") (Or.inl (hw _ (List.mem_of_getElem? (i := 22) rfl))) Via.refl e38 (S_VECTOR3.ext (O0.keep K38 all0).2) (g := (mkF m 65 #[iv p0, .unset, .unset, .unset] [(.int (9 : Int32)), (.ref b2), (.ref b2)])) rfl (hb hby at_65)
  have pre41 : ∀ t, Steps p.tables e below (T40.setTop (mkF m 68 #[iv p0, .unset, .unset, .unset] [(.ref (el 9)), (.int (9 : Int32)), (.ref b2), (.ref b2)])) t → Steps p.tables e below (s₁.setTop (entryFrame m #[(.int p0)] maxLocals)) t := by
    intro t kt
    refine pre39 _ ?_
    show Steps p.tables e below (T38.setTop (mkF m 65 #[iv p0, .unset, .unset, .unset] [(.int (9 : Int32)), (.ref b2), (.ref b2)])) _
    refine st40 _ ?_
    exact kt
  obtain ⟨cl42, Ar42, q42, S42, M42, H42, G42⟩ := id V38
  have hin42 : ¬ ((9 : Int32) < 0 ∨ cl42.slots.size ≤ ((9 : Int32)).toNatClampNeg) := inb_of S42 ⟨by decide, by decide⟩
  obtain ⟨T42, h42, X42, e42, W42, st42⟩ := stR X40 hx hZ e40 Ar42 (j := (9 : Int32)) hin42 rfl (Sto.ofV Ar42 q42 O2 (Ins.self ((hE 9 (by decide)).ext (O0.keep K38 all0).2))) (g := (mkF m 68 #[iv p0, .unset, .unset, .unset] [(.ref (el 9)), (.int (9 : Int32)), (.ref b2), (.ref b2)])) rfl rfl (hb hby at_68)
  have V42 : Arv Z h42 b2 k2 (.object "com/example/quadvar/quadvar/model/VariantType") (39 : Int32) [(.ref (el 0)), (.ref (el 1)), (.ref (el 2)), (.ref (el 3)), (.ref (el 4)), (.ref (el 5)), (.ref (el 6)), (.ref (el 7)), (.ref (el 8)), (.ref (el 9)), .null, .null, .null, .null, .null, .null, .null, .null, .null, .null, .null, .null, .null, .null, .null, .null, .null, .null, .null, .null, .null, .null, .null, .null, .null, .null, .null, .null, .null] .null := Arv.set Ar42 q42 S42 M42 H42 G42 rfl W42 9 rfl (Nat.le_of_ble_eq_true rfl)
  have K42 : Keep h0 h42 [] := K38.wr W42 (Or.inr sz_b2)
  have N42 := Fr.snoc X42 N38 g_b2
  have pre43 : ∀ t, Steps p.tables e below (T42.setTop (mkF m 72 #[iv p0, .unset, .unset, .unset] [(.int (10 : Int32)), (.ref b2), (.ref b2)])) t → Steps p.tables e below (s₁.setTop (entryFrame m #[(.int p0)] maxLocals)) t := by
    intro t kt
    refine pre41 _ ?_
    show Steps p.tables e below (T40.setTop (mkF m 68 #[iv p0, .unset, .unset, .unset] [(.ref (el 9)), (.int (9 : Int32)), (.ref b2), (.ref b2)])) _
    refine st42 _ ?_
    show Steps p.tables e below (T42.setTop (mkF m 69 #[iv p0, .unset, .unset, .unset] [(.ref b2)])) _
    refine XS.dup X42.here hx rfl (hb hby at_69) rfl rfl ?_
    show Steps p.tables e below (T42.setTop (mkF m 70 #[iv p0, .unset, .unset, .unset] [(.ref b2), (.ref b2)])) _
    refine XS.bipush X42.here hx rfl (hb hby at_70) ?_
    exact kt
  obtain ⟨T44, X44, e44, st44⟩ := getS2 X42 hx hZ hown (host := "") (Or.inl (hw _ (List.mem_of_getElem? (i := 24) rfl))) Via.refl e42 (S_VECTOR3I.ext (O0.keep K42 all0).2) (g := (mkF m 72 #[iv p0, .unset, .unset, .unset] [(.int (10 : Int32)), (.ref b2), (.ref b2)])) rfl (hb hby at_72)
  have pre45 : ∀ t, Steps p.tables e below (T44.setTop (mkF m 75 #[iv p0, .unset, .unset, .unset] [(.ref (el 10)), (.int (10 : Int32)), (.ref b2), (.ref b2)])) t → Steps p.tables e below (s₁.setTop (entryFrame m #[(.int p0)] maxLocals)) t := by
    intro t kt
    refine pre43 _ ?_
    show Steps p.tables e below (T42.setTop (mkF m 72 #[iv p0, .unset, .unset, .unset] [(.int (10 : Int32)), (.ref b2), (.ref b2)])) _
    refine st44 _ ?_
    exact kt
  obtain ⟨cl46, Ar46, q46, S46, M46, H46, G46⟩ := id V42
  have hin46 : ¬ ((10 : Int32) < 0 ∨ cl46.slots.size ≤ ((10 : Int32)).toNatClampNeg) := inb_of S46 ⟨by decide, by decide⟩
  obtain ⟨T46, h46, X46, e46, W46, st46⟩ := stR X44 hx hZ e44 Ar46 (j := (10 : Int32)) hin46 rfl (Sto.ofV Ar46 q46 O2 (Ins.self ((hE 10 (by decide)).ext (O0.keep K42 all0).2))) (g := (mkF m 75 #[iv p0, .unset, .unset, .unset] [(.ref (el 10)), (.int (10 : Int32)), (.ref b2), (.ref b2)])) rfl rfl (hb hby at_75)
  have V46 : Arv Z h46 b2 k2 (.object "com/example/quadvar/quadvar/model/VariantType") (39 : Int32) [(.ref (el 0)), (.ref (el 1)), (.ref (el 2)), (.ref (el 3)), (.ref (el 4)), (.ref (el 5)), (.ref (el 6)), (.ref (el 7)), (.ref (el 8)), (.ref (el 9)), (.ref (el 10)), .null, .null, .null, .null, .null, .null, .null, .null, .null, .null, .null, .null, .null, .null, .null, .null, .null, .null, .null, .null, .null, .null, .null, .null, .null, .null, .null, .null] .null := Arv.set Ar46 q46 S46 M46 H46 G46 rfl W46 10 rfl (Nat.le_of_ble_eq_true rfl)
  have K46 : Keep h0 h46 [] := K42.wr W46 (Or.inr sz_b2)
  have N46 := Fr.snoc X46 N42 g_b2
  have pre47 : ∀ t, Steps p.tables e below (T46.setTop (mkF m 79 #[iv p0, .unset, .unset, .unset] [(.int (11 : Int32)), (.ref b2), (.ref b2)])) t → Steps p.tables e below (s₁.setTop (entryFrame m #[(.int p0)] maxLocals)) t := by
    intro t kt
    refine pre45 _ ?_
    show Steps p.tables e below (T44.setTop (mkF m 75 #[iv p0, .unset, .unset, .unset] [(.ref (el 10)), (.int (10 : Int32)), (.ref b2), (.ref b2)])) _
    refine st46 _ ?_
    show Steps p.tables e below (T46.setTop (mkF m 76 #[iv p0, .unset, .unset, .unset] [(.ref b2)])) _
    refine XS.dup X46.here hx rfl (hb hby at_76) rfl rfl ?_
    show Steps p.tables e below (T46.setTop (mkF m 77 #[iv p0, .unset, .unset, .unset] [(.ref b2), (.ref b2)])) _
    refine XS.bipush X46.here hx rfl (hb hby at_77) ?_
    exact kt
  obtain ⟨T48, X48, e48, st48⟩ := getS2 X46 hx hZ hown (host := "") (Or.inl (hw _ (List.mem_of_getElem? (i := 26) rfl))) Via.refl e46 (S_TRANSFORM2D.ext (O0.keep K46 all0).2) (g := (mkF m 79 #[iv p0, .unset, .unset, .unset] [(.int (11 : Int32)), (.ref b2), (.ref b2)])) rfl (hb hby at_79)
  have pre49 : ∀ t, Steps p.tables e below (T48.setTop (mkF m 82 #[iv p0, .unset, .unset, .unset] [(.ref (el 11)), (.int (11 : Int32)), (.ref b2), (.ref b2)])) t → Steps p.tables e below (s₁.setTop (entryFrame m #[(.int p0)] maxLocals)) t := by
    intro t kt
    refine pre47 _ ?_
    show Steps p.tables e below (T46.setTop (mkF m 79 #[iv p0, .unset, .unset, .unset] [(.int (11 : Int32)), (.ref b2), (.ref b2)])) _
    refine st48 _ ?_
    exact kt
  obtain ⟨cl50, Ar50, q50, S50, M50, H50, G50⟩ := id V46
  have hin50 : ¬ ((11 : Int32) < 0 ∨ cl50.slots.size ≤ ((11 : Int32)).toNatClampNeg) := inb_of S50 ⟨by decide, by decide⟩
  obtain ⟨T50, h50, X50, e50, W50, st50⟩ := stR X48 hx hZ e48 Ar50 (j := (11 : Int32)) hin50 rfl (Sto.ofV Ar50 q50 O2 (Ins.self ((hE 11 (by decide)).ext (O0.keep K46 all0).2))) (g := (mkF m 82 #[iv p0, .unset, .unset, .unset] [(.ref (el 11)), (.int (11 : Int32)), (.ref b2), (.ref b2)])) rfl rfl (hb hby at_82)
  have V50 : Arv Z h50 b2 k2 (.object "com/example/quadvar/quadvar/model/VariantType") (39 : Int32) [(.ref (el 0)), (.ref (el 1)), (.ref (el 2)), (.ref (el 3)), (.ref (el 4)), (.ref (el 5)), (.ref (el 6)), (.ref (el 7)), (.ref (el 8)), (.ref (el 9)), (.ref (el 10)), (.ref (el 11)), .null, .null, .null, .null, .null, .null, .null, .null, .null, .null, .null, .null, .null, .null, .null, .null, .null, .null, .null, .null, .null, .null, .null, .null, .null, .null, .null] .null := Arv.set Ar50 q50 S50 M50 H50 G50 rfl W50 11 rfl (Nat.le_of_ble_eq_true rfl)
  have K50 : Keep h0 h50 [] := K46.wr W50 (Or.inr sz_b2)
  have N50 := Fr.snoc X50 N46 g_b2
  have pre51 : ∀ t, Steps p.tables e below (T50.setTop (mkF m 86 #[iv p0, .unset, .unset, .unset] [(.int (12 : Int32)), (.ref b2), (.ref b2)])) t → Steps p.tables e below (s₁.setTop (entryFrame m #[(.int p0)] maxLocals)) t := by
    intro t kt
    refine pre49 _ ?_
    show Steps p.tables e below (T48.setTop (mkF m 82 #[iv p0, .unset, .unset, .unset] [(.ref (el 11)), (.int (11 : Int32)), (.ref b2), (.ref b2)])) _
    refine st50 _ ?_
    show Steps p.tables e below (T50.setTop (mkF m 83 #[iv p0, .unset, .unset, .unset] [(.ref b2)])) _
    refine XS.dup X50.here hx rfl (hb hby at_83) rfl rfl ?_
    show Steps p.tables e below (T50.setTop (mkF m 84 #[iv p0, .unset, .unset, .unset] [(.ref b2), (.ref b2)])) _
    refine XS.bipush X50.here hx rfl (hb hby at_84) ?_
    exact kt
  obtain ⟨T52, X52, e52, st52⟩ := getS2 X50 hx hZ hown (host := "") (Or.inl (hw _ (List.mem_of_getElem? (i := 28) rfl))) Via.refl e50 (S_VECTOR4.ext (O0.keep K50 all0).2) (g := (mkF m 86 #[iv p0, .unset, .unset, .unset] [(.int (12 : Int32)), (.ref b2), (.ref b2)])) rfl (hb hby at_86)
  have pre53 : ∀ t, Steps p.tables e below (T52.setTop (mkF m 89 #[iv p0, .unset, .unset, .unset] [(.ref (el 12)), (.int (12 : Int32)), (.ref b2), (.ref b2)])) t → Steps p.tables e below (s₁.setTop (entryFrame m #[(.int p0)] maxLocals)) t := by
    intro t kt
    refine pre51 _ ?_
    show Steps p.tables e below (T50.setTop (mkF m 86 #[iv p0, .unset, .unset, .unset] [(.int (12 : Int32)), (.ref b2), (.ref b2)])) _
    refine st52 _ ?_
    exact kt
  obtain ⟨cl54, Ar54, q54, S54, M54, H54, G54⟩ := id V50
  have hin54 : ¬ ((12 : Int32) < 0 ∨ cl54.slots.size ≤ ((12 : Int32)).toNatClampNeg) := inb_of S54 ⟨by decide, by decide⟩
  obtain ⟨T54, h54, X54, e54, W54, st54⟩ := stR X52 hx hZ e52 Ar54 (j := (12 : Int32)) hin54 rfl (Sto.ofV Ar54 q54 O2 (Ins.self ((hE 12 (by decide)).ext (O0.keep K50 all0).2))) (g := (mkF m 89 #[iv p0, .unset, .unset, .unset] [(.ref (el 12)), (.int (12 : Int32)), (.ref b2), (.ref b2)])) rfl rfl (hb hby at_89)
  have V54 : Arv Z h54 b2 k2 (.object "com/example/quadvar/quadvar/model/VariantType") (39 : Int32) [(.ref (el 0)), (.ref (el 1)), (.ref (el 2)), (.ref (el 3)), (.ref (el 4)), (.ref (el 5)), (.ref (el 6)), (.ref (el 7)), (.ref (el 8)), (.ref (el 9)), (.ref (el 10)), (.ref (el 11)), (.ref (el 12)), .null, .null, .null, .null, .null, .null, .null, .null, .null, .null, .null, .null, .null, .null, .null, .null, .null, .null, .null, .null, .null, .null, .null, .null, .null, .null] .null := Arv.set Ar54 q54 S54 M54 H54 G54 rfl W54 12 rfl (Nat.le_of_ble_eq_true rfl)
  have K54 : Keep h0 h54 [] := K50.wr W54 (Or.inr sz_b2)
  have N54 := Fr.snoc X54 N50 g_b2
  have pre55 : ∀ t, Steps p.tables e below (T54.setTop (mkF m 93 #[iv p0, .unset, .unset, .unset] [(.int (13 : Int32)), (.ref b2), (.ref b2)])) t → Steps p.tables e below (s₁.setTop (entryFrame m #[(.int p0)] maxLocals)) t := by
    intro t kt
    refine pre53 _ ?_
    show Steps p.tables e below (T52.setTop (mkF m 89 #[iv p0, .unset, .unset, .unset] [(.ref (el 12)), (.int (12 : Int32)), (.ref b2), (.ref b2)])) _
    refine st54 _ ?_
    show Steps p.tables e below (T54.setTop (mkF m 90 #[iv p0, .unset, .unset, .unset] [(.ref b2)])) _
    refine XS.dup X54.here hx rfl (hb hby at_90) rfl rfl ?_
    show Steps p.tables e below (T54.setTop (mkF m 91 #[iv p0, .unset, .unset, .unset] [(.ref b2), (.ref b2)])) _
    refine XS.bipush X54.here hx rfl (hb hby at_91) ?_
    exact kt
  obtain ⟨T56, X56, e56, st56⟩ := getS2 X54 hx hZ hown (host := "") (Or.inl (hw _ (List.mem_of_getElem? (i := 30) rfl))) Via.refl e54 (S_VECTOR4I.ext (O0.keep K54 all0).2) (g := (mkF m 93 #[iv p0, .unset, .unset, .unset] [(.int (13 : Int32)), (.ref b2), (.ref b2)])) rfl (hb hby at_93)
  have pre57 : ∀ t, Steps p.tables e below (T56.setTop (mkF m 96 #[iv p0, .unset, .unset, .unset] [(.ref (el 13)), (.int (13 : Int32)), (.ref b2), (.ref b2)])) t → Steps p.tables e below (s₁.setTop (entryFrame m #[(.int p0)] maxLocals)) t := by
    intro t kt
    refine pre55 _ ?_
    show Steps p.tables e below (T54.setTop (mkF m 93 #[iv p0, .unset, .unset, .unset] [(.int (13 : Int32)), (.ref b2), (.ref b2)])) _
    refine st56 _ ?_
    exact kt
  obtain ⟨cl58, Ar58, q58, S58, M58, H58, G58⟩ := id V54
  have hin58 : ¬ ((13 : Int32) < 0 ∨ cl58.slots.size ≤ ((13 : Int32)).toNatClampNeg) := inb_of S58 ⟨by decide, by decide⟩
  obtain ⟨T58, h58, X58, e58, W58, st58⟩ := stR X56 hx hZ e56 Ar58 (j := (13 : Int32)) hin58 rfl (Sto.ofV Ar58 q58 O2 (Ins.self ((hE 13 (by decide)).ext (O0.keep K54 all0).2))) (g := (mkF m 96 #[iv p0, .unset, .unset, .unset] [(.ref (el 13)), (.int (13 : Int32)), (.ref b2), (.ref b2)])) rfl rfl (hb hby at_96)
  have V58 : Arv Z h58 b2 k2 (.object "com/example/quadvar/quadvar/model/VariantType") (39 : Int32) [(.ref (el 0)), (.ref (el 1)), (.ref (el 2)), (.ref (el 3)), (.ref (el 4)), (.ref (el 5)), (.ref (el 6)), (.ref (el 7)), (.ref (el 8)), (.ref (el 9)), (.ref (el 10)), (.ref (el 11)), (.ref (el 12)), (.ref (el 13)), .null, .null, .null, .null, .null, .null, .null, .null, .null, .null, .null, .null, .null, .null, .null, .null, .null, .null, .null, .null, .null, .null, .null, .null, .null] .null := Arv.set Ar58 q58 S58 M58 H58 G58 rfl W58 13 rfl (Nat.le_of_ble_eq_true rfl)
  have K58 : Keep h0 h58 [] := K54.wr W58 (Or.inr sz_b2)
  have N58 := Fr.snoc X58 N54 g_b2
  have pre59 : ∀ t, Steps p.tables e below (T58.setTop (mkF m 100 #[iv p0, .unset, .unset, .unset] [(.int (14 : Int32)), (.ref b2), (.ref b2)])) t → Steps p.tables e below (s₁.setTop (entryFrame m #[(.int p0)] maxLocals)) t := by
    intro t kt
    refine pre57 _ ?_
    show Steps p.tables e below (T56.setTop (mkF m 96 #[iv p0, .unset, .unset, .unset] [(.ref (el 13)), (.int (13 : Int32)), (.ref b2), (.ref b2)])) _
    refine st58 _ ?_
    show Steps p.tables e below (T58.setTop (mkF m 97 #[iv p0, .unset, .unset, .unset] [(.ref b2)])) _
    refine XS.dup X58.here hx rfl (hb hby at_97) rfl rfl ?_
    show Steps p.tables e below (T58.setTop (mkF m 98 #[iv p0, .unset, .unset, .unset] [(.ref b2), (.ref b2)])) _
    refine XS.bipush X58.here hx rfl (hb hby at_98) ?_
    exact kt
  obtain ⟨T60, X60, e60, st60⟩ := getS2 X58 hx hZ hown (host := "") (Or.inl (hw _ (List.mem_of_getElem? (i := 32) rfl))) Via.refl e58 (S_PLANE.ext (O0.keep K58 all0).2) (g := (mkF m 100 #[iv p0, .unset, .unset, .unset] [(.int (14 : Int32)), (.ref b2), (.ref b2)])) rfl (hb hby at_100)
  have pre61 : ∀ t, Steps p.tables e below (T60.setTop (mkF m 103 #[iv p0, .unset, .unset, .unset] [(.ref (el 14)), (.int (14 : Int32)), (.ref b2), (.ref b2)])) t → Steps p.tables e below (s₁.setTop (entryFrame m #[(.int p0)] maxLocals)) t := by
    intro t kt
    refine pre59 _ ?_
    show Steps p.tables e below (T58.setTop (mkF m 100 #[iv p0, .unset, .unset, .unset] [(.int (14 : Int32)), (.ref b2), (.ref b2)])) _
    refine st60 _ ?_
    exact kt
  obtain ⟨cl62, Ar62, q62, S62, M62, H62, G62⟩ := id V58
  have hin62 : ¬ ((14 : Int32) < 0 ∨ cl62.slots.size ≤ ((14 : Int32)).toNatClampNeg) := inb_of S62 ⟨by decide, by decide⟩
  obtain ⟨T62, h62, X62, e62, W62, st62⟩ := stR X60 hx hZ e60 Ar62 (j := (14 : Int32)) hin62 rfl (Sto.ofV Ar62 q62 O2 (Ins.self ((hE 14 (by decide)).ext (O0.keep K58 all0).2))) (g := (mkF m 103 #[iv p0, .unset, .unset, .unset] [(.ref (el 14)), (.int (14 : Int32)), (.ref b2), (.ref b2)])) rfl rfl (hb hby at_103)
  have V62 : Arv Z h62 b2 k2 (.object "com/example/quadvar/quadvar/model/VariantType") (39 : Int32) [(.ref (el 0)), (.ref (el 1)), (.ref (el 2)), (.ref (el 3)), (.ref (el 4)), (.ref (el 5)), (.ref (el 6)), (.ref (el 7)), (.ref (el 8)), (.ref (el 9)), (.ref (el 10)), (.ref (el 11)), (.ref (el 12)), (.ref (el 13)), (.ref (el 14)), .null, .null, .null, .null, .null, .null, .null, .null, .null, .null, .null, .null, .null, .null, .null, .null, .null, .null, .null, .null, .null, .null, .null, .null] .null := Arv.set Ar62 q62 S62 M62 H62 G62 rfl W62 14 rfl (Nat.le_of_ble_eq_true rfl)
  have K62 : Keep h0 h62 [] := K58.wr W62 (Or.inr sz_b2)
  have N62 := Fr.snoc X62 N58 g_b2
  have pre63 : ∀ t, Steps p.tables e below (T62.setTop (mkF m 107 #[iv p0, .unset, .unset, .unset] [(.int (15 : Int32)), (.ref b2), (.ref b2)])) t → Steps p.tables e below (s₁.setTop (entryFrame m #[(.int p0)] maxLocals)) t := by
    intro t kt
    refine pre61 _ ?_
    show Steps p.tables e below (T60.setTop (mkF m 103 #[iv p0, .unset, .unset, .unset] [(.ref (el 14)), (.int (14 : Int32)), (.ref b2), (.ref b2)])) _
    refine st62 _ ?_
    show Steps p.tables e below (T62.setTop (mkF m 104 #[iv p0, .unset, .unset, .unset] [(.ref b2)])) _
    refine XS.dup X62.here hx rfl (hb hby at_104) rfl rfl ?_
    show Steps p.tables e below (T62.setTop (mkF m 105 #[iv p0, .unset, .unset, .unset] [(.ref b2), (.ref b2)])) _
    refine XS.bipush X62.here hx rfl (hb hby at_105) ?_
    exact kt
  obtain ⟨T64, X64, e64, st64⟩ := getS2 X62 hx hZ hown (host := "") (Or.inl (hw _ (List.mem_of_getElem? (i := 34) rfl))) Via.refl e62 (S_QUATERNION.ext (O0.keep K62 all0).2) (g := (mkF m 107 #[iv p0, .unset, .unset, .unset] [(.int (15 : Int32)), (.ref b2), (.ref b2)])) rfl (hb hby at_107)
  have pre65 : ∀ t, Steps p.tables e below (T64.setTop (mkF m 110 #[iv p0, .unset, .unset, .unset] [(.ref (el 15)), (.int (15 : Int32)), (.ref b2), (.ref b2)])) t → Steps p.tables e below (s₁.setTop (entryFrame m #[(.int p0)] maxLocals)) t := by
    intro t kt
    refine pre63 _ ?_
    show Steps p.tables e below (T62.setTop (mkF m 107 #[iv p0, .unset, .unset, .unset] [(.int (15 : Int32)), (.ref b2), (.ref b2)])) _
    refine st64 _ ?_
    exact kt
  obtain ⟨cl66, Ar66, q66, S66, M66, H66, G66⟩ := id V62
  have hin66 : ¬ ((15 : Int32) < 0 ∨ cl66.slots.size ≤ ((15 : Int32)).toNatClampNeg) := inb_of S66 ⟨by decide, by decide⟩
  obtain ⟨T66, h66, X66, e66, W66, st66⟩ := stR X64 hx hZ e64 Ar66 (j := (15 : Int32)) hin66 rfl (Sto.ofV Ar66 q66 O2 (Ins.self ((hE 15 (by decide)).ext (O0.keep K62 all0).2))) (g := (mkF m 110 #[iv p0, .unset, .unset, .unset] [(.ref (el 15)), (.int (15 : Int32)), (.ref b2), (.ref b2)])) rfl rfl (hb hby at_110)
  have V66 : Arv Z h66 b2 k2 (.object "com/example/quadvar/quadvar/model/VariantType") (39 : Int32) [(.ref (el 0)), (.ref (el 1)), (.ref (el 2)), (.ref (el 3)), (.ref (el 4)), (.ref (el 5)), (.ref (el 6)), (.ref (el 7)), (.ref (el 8)), (.ref (el 9)), (.ref (el 10)), (.ref (el 11)), (.ref (el 12)), (.ref (el 13)), (.ref (el 14)), (.ref (el 15)), .null, .null, .null, .null, .null, .null, .null, .null, .null, .null, .null, .null, .null, .null, .null, .null, .null, .null, .null, .null, .null, .null, .null] .null := Arv.set Ar66 q66 S66 M66 H66 G66 rfl W66 15 rfl (Nat.le_of_ble_eq_true rfl)
  have K66 : Keep h0 h66 [] := K62.wr W66 (Or.inr sz_b2)
  have N66 := Fr.snoc X66 N62 g_b2
  have pre67 : ∀ t, Steps p.tables e below (T66.setTop (mkF m 114 #[iv p0, .unset, .unset, .unset] [(.int (16 : Int32)), (.ref b2), (.ref b2)])) t → Steps p.tables e below (s₁.setTop (entryFrame m #[(.int p0)] maxLocals)) t := by
    intro t kt
    refine pre65 _ ?_
    show Steps p.tables e below (T64.setTop (mkF m 110 #[iv p0, .unset, .unset, .unset] [(.ref (el 15)), (.int (15 : Int32)), (.ref b2), (.ref b2)])) _
    refine st66 _ ?_
    show Steps p.tables e below (T66.setTop (mkF m 111 #[iv p0, .unset, .unset, .unset] [(.ref b2)])) _
    refine XS.dup X66.here hx rfl (hb hby at_111) rfl rfl ?_
    show Steps p.tables e below (T66.setTop (mkF m 112 #[iv p0, .unset, .unset, .unset] [(.ref b2), (.ref b2)])) _
    refine XS.bipush X66.here hx rfl (hb hby at_112) ?_
    exact kt
  obtain ⟨T68, X68, e68, st68⟩ := getS2 X66 hx hZ hown (host := "") (Or.inl (hw _ (List.mem_of_getElem? (i := 36) rfl))) Via.refl e66 (S_AABB.ext (O0.keep K66 all0).2) (g := (mkF m 114 #[iv p0, .unset, .unset, .unset] [(.int (16 : Int32)), (.ref b2), (.ref b2)])) rfl (hb hby at_114)
  have pre69 : ∀ t, Steps p.tables e below (T68.setTop (mkF m 117 #[iv p0, .unset, .unset, .unset] [(.ref (el 16)), (.int (16 : Int32)), (.ref b2), (.ref b2)])) t → Steps p.tables e below (s₁.setTop (entryFrame m #[(.int p0)] maxLocals)) t := by
    intro t kt
    refine pre67 _ ?_
    show Steps p.tables e below (T66.setTop (mkF m 114 #[iv p0, .unset, .unset, .unset] [(.int (16 : Int32)), (.ref b2), (.ref b2)])) _
    refine st68 _ ?_
    exact kt
  obtain ⟨cl70, Ar70, q70, S70, M70, H70, G70⟩ := id V66
  have hin70 : ¬ ((16 : Int32) < 0 ∨ cl70.slots.size ≤ ((16 : Int32)).toNatClampNeg) := inb_of S70 ⟨by decide, by decide⟩
  obtain ⟨T70, h70, X70, e70, W70, st70⟩ := stR X68 hx hZ e68 Ar70 (j := (16 : Int32)) hin70 rfl (Sto.ofV Ar70 q70 O2 (Ins.self ((hE 16 (by decide)).ext (O0.keep K66 all0).2))) (g := (mkF m 117 #[iv p0, .unset, .unset, .unset] [(.ref (el 16)), (.int (16 : Int32)), (.ref b2), (.ref b2)])) rfl rfl (hb hby at_117)
  have V70 : Arv Z h70 b2 k2 (.object "com/example/quadvar/quadvar/model/VariantType") (39 : Int32) [(.ref (el 0)), (.ref (el 1)), (.ref (el 2)), (.ref (el 3)), (.ref (el 4)), (.ref (el 5)), (.ref (el 6)), (.ref (el 7)), (.ref (el 8)), (.ref (el 9)), (.ref (el 10)), (.ref (el 11)), (.ref (el 12)), (.ref (el 13)), (.ref (el 14)), (.ref (el 15)), (.ref (el 16)), .null, .null, .null, .null, .null, .null, .null, .null, .null, .null, .null, .null, .null, .null, .null, .null, .null, .null, .null, .null, .null, .null] .null := Arv.set Ar70 q70 S70 M70 H70 G70 rfl W70 16 rfl (Nat.le_of_ble_eq_true rfl)
  have K70 : Keep h0 h70 [] := K66.wr W70 (Or.inr sz_b2)
  have N70 := Fr.snoc X70 N66 g_b2
  have pre71 : ∀ t, Steps p.tables e below (T70.setTop (mkF m 121 #[iv p0, .unset, .unset, .unset] [(.int (17 : Int32)), (.ref b2), (.ref b2)])) t → Steps p.tables e below (s₁.setTop (entryFrame m #[(.int p0)] maxLocals)) t := by
    intro t kt
    refine pre69 _ ?_
    show Steps p.tables e below (T68.setTop (mkF m 117 #[iv p0, .unset, .unset, .unset] [(.ref (el 16)), (.int (16 : Int32)), (.ref b2), (.ref b2)])) _
    refine st70 _ ?_
    show Steps p.tables e below (T70.setTop (mkF m 118 #[iv p0, .unset, .unset, .unset] [(.ref b2)])) _
    refine XS.dup X70.here hx rfl (hb hby at_118) rfl rfl ?_
    show Steps p.tables e below (T70.setTop (mkF m 119 #[iv p0, .unset, .unset, .unset] [(.ref b2), (.ref b2)])) _
    refine XS.bipush X70.here hx rfl (hb hby at_119) ?_
    exact kt
  obtain ⟨T72, X72, e72, st72⟩ := getS2 X70 hx hZ hown (host := "") (Or.inl (hw _ (List.mem_of_getElem? (i := 38) rfl))) Via.refl e70 (S_BASIS.ext (O0.keep K70 all0).2) (g := (mkF m 121 #[iv p0, .unset, .unset, .unset] [(.int (17 : Int32)), (.ref b2), (.ref b2)])) rfl (hb hby at_121)
  have pre73 : ∀ t, Steps p.tables e below (T72.setTop (mkF m 124 #[iv p0, .unset, .unset, .unset] [(.ref (el 17)), (.int (17 : Int32)), (.ref b2), (.ref b2)])) t → Steps p.tables e below (s₁.setTop (entryFrame m #[(.int p0)] maxLocals)) t := by
    intro t kt
    refine pre71 _ ?_
    show Steps p.tables e below (T70.setTop (mkF m 121 #[iv p0, .unset, .unset, .unset] [(.int (17 : Int32)), (.ref b2), (.ref b2)])) _
    refine st72 _ ?_
    exact kt
  obtain ⟨cl74, Ar74, q74, S74, M74, H74, G74⟩ := id V70
  have hin74 : ¬ ((17 : Int32) < 0 ∨ cl74.slots.size ≤ ((17 : Int32)).toNatClampNeg) := inb_of S74 ⟨by decide, by decide⟩
  obtain ⟨T74, h74, X74, e74, W74, st74⟩ := stR X72 hx hZ e72 Ar74 (j := (17 : Int32)) hin74 rfl (Sto.ofV Ar74 q74 O2 (Ins.self ((hE 17 (by decide)).ext (O0.keep K70 all0).2))) (g := (mkF m 124 #[iv p0, .unset, .unset, .unset] [(.ref (el 17)), (.int (17 : Int32)), (.ref b2), (.ref b2)])) rfl rfl (hb hby at_124)
  have V74 : Arv Z h74 b2 k2 (.object "com/example/quadvar/quadvar/model/VariantType") (39 : Int32) [(.ref (el 0)), (.ref (el 1)), (.ref (el 2)), (.ref (el 3)), (.ref (el 4)), (.ref (el 5)), (.ref (el 6)), (.ref (el 7)), (.ref (el 8)), (.ref (el 9)), (.ref (el 10)), (.ref (el 11)), (.ref (el 12)), (.ref (el 13)), (.ref (el 14)), (.ref (el 15)), (.ref (el 16)), (.ref (el 17)), .null, .null, .null, .null, .null, .null, .null, .null, .null, .null, .null, .null, .null, .null, .null, .null, .null, .null, .null, .null, .null] .null := Arv.set Ar74 q74 S74 M74 H74 G74 rfl W74 17 rfl (Nat.le_of_ble_eq_true rfl)
  have K74 : Keep h0 h74 [] := K70.wr W74 (Or.inr sz_b2)
  have N74 := Fr.snoc X74 N70 g_b2
  have pre75 : ∀ t, Steps p.tables e below (T74.setTop (mkF m 128 #[iv p0, .unset, .unset, .unset] [(.int (18 : Int32)), (.ref b2), (.ref b2)])) t → Steps p.tables e below (s₁.setTop (entryFrame m #[(.int p0)] maxLocals)) t := by
    intro t kt
    refine pre73 _ ?_
    show Steps p.tables e below (T72.setTop (mkF m 124 #[iv p0, .unset, .unset, .unset] [(.ref (el 17)), (.int (17 : Int32)), (.ref b2), (.ref b2)])) _
    refine st74 _ ?_
    show Steps p.tables e below (T74.setTop (mkF m 125 #[iv p0, .unset, .unset, .unset] [(.ref b2)])) _
    refine XS.dup X74.here hx rfl (hb hby at_125) rfl rfl ?_
    show Steps p.tables e below (T74.setTop (mkF m 126 #[iv p0, .unset, .unset, .unset] [(.ref b2), (.ref b2)])) _
    refine XS.bipush X74.here hx rfl (hb hby at_126) ?_
    exact kt
  obtain ⟨T76, X76, e76, st76⟩ := getS2 X74 hx hZ hown (host := "") (Or.inl (hw _ (List.mem_of_getElem? (i := 40) rfl))) Via.refl e74 (S_TRANSFORM3D.ext (O0.keep K74 all0).2) (g := (mkF m 128 #[iv p0, .unset, .unset, .unset] [(.int (18 : Int32)), (.ref b2), (.ref b2)])) rfl (hb hby at_128)
  have pre77 : ∀ t, Steps p.tables e below (T76.setTop (mkF m 131 #[iv p0, .unset, .unset, .unset] [(.ref (el 18)), (.int (18 : Int32)), (.ref b2), (.ref b2)])) t → Steps p.tables e below (s₁.setTop (entryFrame m #[(.int p0)] maxLocals)) t := by
    intro t kt
    refine pre75 _ ?_
    show Steps p.tables e below (T74.setTop (mkF m 128 #[iv p0, .unset, .unset, .unset] [(.int (18 : Int32)), (.ref b2), (.ref b2)])) _
    refine st76 _ ?_
    exact kt
  obtain ⟨cl78, Ar78, q78, S78, M78, H78, G78⟩ := id V74
  have hin78 : ¬ ((18 : Int32) < 0 ∨ cl78.slots.size ≤ ((18 : Int32)).toNatClampNeg) := inb_of S78 ⟨by decide, by decide⟩
  obtain ⟨T78, h78, X78, e78, W78, st78⟩ := stR X76 hx hZ e76 Ar78 (j := (18 : Int32)) hin78 rfl (Sto.ofV Ar78 q78 O2 (Ins.self ((hE 18 (by decide)).ext (O0.keep K74 all0).2))) (g := (mkF m 131 #[iv p0, .unset, .unset, .unset] [(.ref (el 18)), (.int (18 : Int32)), (.ref b2), (.ref b2)])) rfl rfl (hb hby at_131)
  have V78 : Arv Z h78 b2 k2 (.object "com/example/quadvar/quadvar/model/VariantType") (39 : Int32) [(.ref (el 0)), (.ref (el 1)), (.ref (el 2)), (.ref (el 3)), (.ref (el 4)), (.ref (el 5)), (.ref (el 6)), (.ref (el 7)), (.ref (el 8)), (.ref (el 9)), (.ref (el 10)), (.ref (el 11)), (.ref (el 12)), (.ref (el 13)), (.ref (el 14)), (.ref (el 15)), (.ref (el 16)), (.ref (el 17)), (.ref (el 18)), .null, .null, .null, .null, .null, .null, .null, .null, .null, .null, .null, .null, .null, .null, .null, .null, .null, .null, .null, .null] .null := Arv.set Ar78 q78 S78 M78 H78 G78 rfl W78 18 rfl (Nat.le_of_ble_eq_true rfl)
  have K78 : Keep h0 h78 [] := K74.wr W78 (Or.inr sz_b2)
  have N78 := Fr.snoc X78 N74 g_b2
  have pre79 : ∀ t, Steps p.tables e below (T78.setTop (mkF m 135 #[iv p0, .unset, .unset, .unset] [(.int (19 : Int32)), (.ref b2), (.ref b2)])) t → Steps p.tables e below (s₁.setTop (entryFrame m #[(.int p0)] maxLocals)) t := by
    intro t kt
    refine pre77 _ ?_
    show Steps p.tables e below (T76.setTop (mkF m 131 #[iv p0, .unset, .unset, .unset] [(.ref (el 18)), (.int (18 : Int32)), (.ref b2), (.ref b2)])) _
    refine st78 _ ?_
    show Steps p.tables e below (T78.setTop (mkF m 132 #[iv p0, .unset, .unset, .unset] [(.ref b2)])) _
    refine XS.dup X78.here hx rfl (hb hby at_132) rfl rfl ?_
    show Steps p.tables e below (T78.setTop (mkF m 133 #[iv p0, .unset, .unset, .unset] [(.ref b2), (.ref b2)])) _
    refine XS.bipush X78.here hx rfl (hb hby at_133) ?_
    exact kt
  obtain ⟨T80, X80, e80, st80⟩ := getS2 X78 hx hZ hown (host := "") (Or.inl (hw _ (List.mem_of_getElem? (i := 42) rfl))) Via.refl e78 (S_PROJECTION.ext (O0.keep K78 all0).2) (g := (mkF m 135 #[iv p0, .unset, .unset, .unset] [(.int (19 : Int32)), (.ref b2), (.ref b2)])) rfl (hb hby at_135)
  have pre81 : ∀ t, Steps p.tables e below (T80.setTop (mkF m 138 #[iv p0, .unset, .unset, .unset] [(.ref (el 19)), (.int (19 : Int32)), (.ref b2), (.ref b2)])) t → Steps p.tables e below (s₁.setTop (entryFrame m #[(.int p0)] maxLocals)) t := by
    intro t kt
    refine pre79 _ ?_
    show Steps p.tables e below (T78.setTop (mkF m 135 #[iv p0, .unset, .unset, .unset] [(.int (19 : Int32)), (.ref b2), (.ref b2)])) _
    refine st80 _ ?_
    exact kt
  obtain ⟨cl82, Ar82, q82, S82, M82, H82, G82⟩ := id V78
  have hin82 : ¬ ((19 : Int32) < 0 ∨ cl82.slots.size ≤ ((19 : Int32)).toNatClampNeg) := inb_of S82 ⟨by decide, by decide⟩
  obtain ⟨T82, h82, X82, e82, W82, st82⟩ := stR X80 hx hZ e80 Ar82 (j := (19 : Int32)) hin82 rfl (Sto.ofV Ar82 q82 O2 (Ins.self ((hE 19 (by decide)).ext (O0.keep K78 all0).2))) (g := (mkF m 138 #[iv p0, .unset, .unset, .unset] [(.ref (el 19)), (.int (19 : Int32)), (.ref b2), (.ref b2)])) rfl rfl (hb hby at_138)
  have V82 : Arv Z h82 b2 k2 (.object "com/example/quadvar/quadvar/model/VariantType") (39 : Int32) [(.ref (el 0)), (.ref (el 1)), (.ref (el 2)), (.ref (el 3)), (.ref (el 4)), (.ref (el 5)), (.ref (el 6)), (.ref (el 7)), (.ref (el 8)), (.ref (el 9)), (.ref (el 10)), (.ref (el 11)), (.ref (el 12)), (.ref (el 13)), (.ref (el 14)), (.ref (el 15)), (.ref (el 16)), (.ref (el 17)), (.ref (el 18)), (.ref (el 19)), .null, .null, .null, .null, .null, .null, .null, .null, .null, .null, .null, .null, .null, .null, .null, .null, .null, .null, .null] .null := Arv.set Ar82 q82 S82 M82 H82 G82 rfl W82 19 rfl (Nat.le_of_ble_eq_true rfl)
  have K82 : Keep h0 h82 [] := K78.wr W82 (Or.inr sz_b2)
  have N82 := Fr.snoc X82 N78 g_b2
  have pre83 : ∀ t, Steps p.tables e below (T82.setTop (mkF m 142 #[iv p0, .unset, .unset, .unset] [(.int (20 : Int32)), (.ref b2), (.ref b2)])) t → Steps p.tables e below (s₁.setTop (entryFrame m #[(.int p0)] maxLocals)) t := by
    intro t kt
    refine pre81 _ ?_
    show Steps p.tables e below (T80.setTop (mkF m 138 #[iv p0, .unset, .unset, .unset] [(.ref (el 19)), (.int (19 : Int32)), (.ref b2), (.ref b2)])) _
    refine st82 _ ?_
    show Steps p.tables e below (T82.setTop (mkF m 139 #[iv p0, .unset, .unset, .unset] [(.ref b2)])) _
    refine XS.dup X82.here hx rfl (hb hby at_139) rfl rfl ?_
    show Steps p.tables e below (T82.setTop (mkF m 140 #[iv p0, .unset, .unset, .unset] [(.ref b2), (.ref b2)])) _
    refine XS.bipush X82.here hx rfl (hb hby at_140) ?_
    exact kt
  obtain ⟨T84, X84, e84, st84⟩ := getS2 X82 hx hZ hown (host := "") (Or.inl (hw _ (List.mem_of_getElem? (i := 44) rfl))) Via.refl e82 (S_COLOR.ext (O0.keep K82 all0).2) (g := (mkF m 142 #[iv p0, .unset, .unset, .unset] [(.int (20 : Int32)), (.ref b2), (.ref b2)])) rfl (hb hby at_142)
  have pre85 : ∀ t, Steps p.tables e below (T84.setTop (mkF m 145 #[iv p0, .unset, .unset, .unset] [(.ref (el 20)), (.int (20 : Int32)), (.ref b2), (.ref b2)])) t → Steps p.tables e below (s₁.setTop (entryFrame m #[(.int p0)] maxLocals)) t := by
    intro t kt
    refine pre83 _ ?_
    show Steps p.tables e below (T82.setTop (mkF m 142 #[iv p0, .unset, .unset, .unset] [(.int (20 : Int32)), (.ref b2), (.ref b2)])) _
    refine st84 _ ?_
    exact kt
  obtain ⟨cl86, Ar86, q86, S86, M86, H86, G86⟩ := id V82
  have hin86 : ¬ ((20 : Int32) < 0 ∨ cl86.slots.size ≤ ((20 : Int32)).toNatClampNeg) := inb_of S86 ⟨by decide, by decide⟩
  obtain ⟨T86, h86, X86, e86, W86, st86⟩ := stR X84 hx hZ e84 Ar86 (j := (20 : Int32)) hin86 rfl (Sto.ofV Ar86 q86 O2 (Ins.self ((hE 20 (by decide)).ext (O0.keep K82 all0).2))) (g := (mkF m 145 #[iv p0, .unset, .unset, .unset] [(.ref (el 20)), (.int (20 : Int32)), (.ref b2), (.ref b2)])) rfl rfl (hb hby at_145)
  have V86 : Arv Z h86 b2 k2 (.object "com/example/quadvar/quadvar/model/VariantType") (39 : Int32) [(.ref (el 0)), (.ref (el 1)), (.ref (el 2)), (.ref (el 3)), (.ref (el 4)), (.ref (el 5)), (.ref (el 6)), (.ref (el 7)), (.ref (el 8)), (.ref (el 9)), (.ref (el 10)), (.ref (el 11)), (.ref (el 12)), (.ref (el 13)), (.ref (el 14)), (.ref (el 15)), (.ref (el 16)), (.ref (el 17)), (.ref (el 18)), (.ref (el 19)), (.ref (el 20)), .null, .null, .null, .null, .null, .null, .null, .null, .null, .null, .null, .null, .null, .null, .null, .null, .null, .null] .null := Arv.set Ar86 q86 S86 M86 H86 G86 rfl W86 20 rfl (Nat.le_of_ble_eq_true rfl)
  have K86 : Keep h0 h86 [] := K82.wr W86 (Or.inr sz_b2)
  have N86 := Fr.snoc X86 N82 g_b2
  have pre87 : ∀ t, Steps p.tables e below (T86.setTop (mkF m 149 #[iv p0, .unset, .unset, .unset] [(.int (21 : Int32)), (.ref b2), (.ref b2)])) t → Steps p.tables e below (s₁.setTop (entryFrame m #[(.int p0)] maxLocals)) t := by
    intro t kt
    refine pre85 _ ?_
    show Steps p.tables e below (T84.setTop (mkF m 145 #[iv p0, .unset, .unset, .unset] [(.ref (el 20)), (.int (20 : Int32)), (.ref b2), (.ref b2)])) _
    refine st86 _ ?_
    show Steps p.tables e below (T86.setTop (mkF m 146 #[iv p0, .unset, .unset, .unset] [(.ref b2)])) _
    refine XS.dup X86.here hx rfl (hb hby at_146) rfl rfl ?_
    show Steps p.tables e below (T86.setTop (mkF m 147 #[iv p0, .unset, .unset, .unset] [(.ref b2), (.ref b2)])) _
    refine XS.bipush X86.here hx rfl (hb hby at_147) ?_
    exact kt
  obtain ⟨T88, X88, e88, st88⟩ := getS2 X86 hx hZ hown (host := "") (Or.inl (hw _ (List.mem_of_getElem? (i := 46) rfl))) Via.refl e86 (S_STRING_NAME.ext (O0.keep K86 all0).2) (g := (mkF m 149 #[iv p0, .unset, .unset, .unset] [(.int (21 : Int32)), (.ref b2), (.ref b2)])) rfl (hb hby at_149)
  have pre89 : ∀ t, Steps p.tables e below (T88.setTop (mkF m 152 #[iv p0, .unset, .unset, .unset] [(.ref (el 21)), (.int (21 : Int32)), (.ref b2), (.ref b2)])) t → Steps p.tables e below (s₁.setTop (entryFrame m #[(.int p0)] maxLocals)) t := by
    intro t kt
    refine pre87 _ ?_
    show Steps p.tables e below (T86.setTop (mkF m 149 #[iv p0, .unset, .unset, .unset] [(.int (21 : Int32)), (.ref b2), (.ref b2)])) _
    refine st88 _ ?_
    exact kt
  obtain ⟨cl90, Ar90, q90, S90, M90, H90, G90⟩ := id V86
  have hin90 : ¬ ((21 : Int32) < 0 ∨ cl90.slots.size ≤ ((21 : Int32)).toNatClampNeg) := inb_of S90 ⟨by decide, by decide⟩
  obtain ⟨T90, h90, X90, e90, W90, st90⟩ := stR X88 hx hZ e88 Ar90 (j := (21 : Int32)) hin90 rfl (Sto.ofV Ar90 q90 O2 (Ins.self ((hE 21 (by decide)).ext (O0.keep K86 all0).2))) (g := (mkF m 152 #[iv p0, .unset, .unset, .unset] [(.ref (el 21)), (.int (21 : Int32)), (.ref b2), (.ref b2)])) rfl rfl (hb hby at_152)
  have V90 : Arv Z h90 b2 k2 (.object "com/example/quadvar/quadvar/model/VariantType") (39 : Int32) [(.ref (el 0)), (.ref (el 1)), (.ref (el 2)), (.ref (el 3)), (.ref (el 4)), (.ref (el 5)), (.ref (el 6)), (.ref (el 7)), (.ref (el 8)), (.ref (el 9)), (.ref (el 10)), (.ref (el 11)), (.ref (el 12)), (.ref (el 13)), (.ref (el 14)), (.ref (el 15)), (.ref (el 16)), (.ref (el 17)), (.ref (el 18)), (.ref (el 19)), (.ref (el 20)), (.ref (el 21)), .null, .null, .null, .null, .null, .null, .null, .null, .null, .null, .null, .null, .null, .null, .null, .null, .null] .null := Arv.set Ar90 q90 S90 M90 H90 G90 rfl W90 21 rfl (Nat.le_of_ble_eq_true rfl)
  have K90 : Keep h0 h90 [] := K86.wr W90 (Or.inr sz_b2)
  have N90 := Fr.snoc X90 N86 g_b2
  have pre91 : ∀ t, Steps p.tables e below (T90.setTop (mkF m 156 #[iv p0, .unset, .unset, .unset] [(.int (22 : Int32)), (.ref b2), (.ref b2)])) t → Steps p.tables e below (s₁.setTop (entryFrame m #[(.int p0)] maxLocals)) t := by
    intro t kt
    refine pre89 _ ?_
    show Steps p.tables e below (T88.setTop (mkF m 152 #[iv p0, .unset, .unset, .unset] [(.ref (el 21)), (.int (21 : Int32)), (.ref b2), (.ref b2)])) _
    refine st90 _ ?_
    show Steps p.tables e below (T90.setTop (mkF m 153 #[iv p0, .unset, .unset, .unset] [(.ref b2)])) _
    refine XS.dup X90.here hx rfl (hb hby at_153) rfl rfl ?_
    show Steps p.tables e below (T90.setTop (mkF m 154 #[iv p0, .unset, .unset, .unset] [(.ref b2), (.ref b2)])) _
    refine XS.bipush X90.here hx rfl (hb hby at_154) ?_
    exact kt
  obtain ⟨T92, X92, e92, st92⟩ := getS2 X90 hx hZ hown (host := "") (Or.inl (hw _ (List.mem_of_getElem? (i := 48) rfl))) Via.refl e90 (S_NODE_PATH.ext (O0.keep K90 all0).2) (g := (mkF m 156 #[iv p0, .unset, .unset, .unset] [(.int (22 : Int32)), (.ref b2), (.ref b2)])) rfl (hb hby at_156)
  have pre93 : ∀ t, Steps p.tables e below (T92.setTop (mkF m 159 #[iv p0, .unset, .unset, .unset] [(.ref (el 22)), (.int (22 : Int32)), (.ref b2), (.ref b2)])) t → Steps p.tables e below (s₁.setTop (entryFrame m #[(.int p0)] maxLocals)) t := by
    intro t kt
    refine pre91 _ ?_
    show Steps p.tables e below (T90.setTop (mkF m 156 #[iv p0, .unset, .unset, .unset] [(.int (22 : Int32)), (.ref b2), (.ref b2)])) _
    refine st92 _ ?_
    exact kt
  obtain ⟨cl94, Ar94, q94, S94, M94, H94, G94⟩ := id V90
  have hin94 : ¬ ((22 : Int32) < 0 ∨ cl94.slots.size ≤ ((22 : Int32)).toNatClampNeg) := inb_of S94 ⟨by decide, by decide⟩
  obtain ⟨T94, h94, X94, e94, W94, st94⟩ := stR X92 hx hZ e92 Ar94 (j := (22 : Int32)) hin94 rfl (Sto.ofV Ar94 q94 O2 (Ins.self ((hE 22 (by decide)).ext (O0.keep K90 all0).2))) (g := (mkF m 159 #[iv p0, .unset, .unset, .unset] [(.ref (el 22)), (.int (22 : Int32)), (.ref b2), (.ref b2)])) rfl rfl (hb hby at_159)
  have V94 : Arv Z h94 b2 k2 (.object "com/example/quadvar/quadvar/model/VariantType") (39 : Int32) [(.ref (el 0)), (.ref (el 1)), (.ref (el 2)), (.ref (el 3)), (.ref (el 4)), (.ref (el 5)), (.ref (el 6)), (.ref (el 7)), (.ref (el 8)), (.ref (el 9)), (.ref (el 10)), (.ref (el 11)), (.ref (el 12)), (.ref (el 13)), (.ref (el 14)), (.ref (el 15)), (.ref (el 16)), (.ref (el 17)), (.ref (el 18)), (.ref (el 19)), (.ref (el 20)), (.ref (el 21)), (.ref (el 22)), .null, .null, .null, .null, .null, .null, .null, .null, .null, .null, .null, .null, .null, .null, .null, .null] .null := Arv.set Ar94 q94 S94 M94 H94 G94 rfl W94 22 rfl (Nat.le_of_ble_eq_true rfl)
  have K94 : Keep h0 h94 [] := K90.wr W94 (Or.inr sz_b2)
  have N94 := Fr.snoc X94 N90 g_b2
  have pre95 : ∀ t, Steps p.tables e below (T94.setTop (mkF m 163 #[iv p0, .unset, .unset, .unset] [(.int (23 : Int32)), (.ref b2), (.ref b2)])) t → Steps p.tables e below (s₁.setTop (entryFrame m #[(.int p0)] maxLocals)) t := by
    intro t kt
    refine pre93 _ ?_
    show Steps p.tables e below (T92.setTop (mkF m 159 #[iv p0, .unset, .unset, .unset] [(.ref (el 22)), (.int (22 : Int32)), (.ref b2), (.ref b2)])) _
    refine st94 _ ?_
    show Steps p.tables e below (T94.setTop (mkF m 160 #[iv p0, .unset, .unset, .unset] [(.ref b2)])) _
    refine XS.dup X94.here hx rfl (hb hby at_160) rfl rfl ?_
    show Steps p.tables e below (T94.setTop (mkF m 161 #[iv p0, .unset, .unset, .unset] [(.ref b2), (.ref b2)])) _
    refine XS.bipush X94.here hx rfl (hb hby at_161) ?_
    exact kt
  obtain ⟨T96, X96, e96, st96⟩ := getS2 X94 hx hZ hown (host := "") (Or.inl (hw _ (List.mem_of_getElem? (i := 50) rfl))) Via.refl e94 (S_RID.ext (O0.keep K94 all0).2) (g := (mkF m 163 #[iv p0, .unset, .unset, .unset] [(.int (23 : Int32)), (.ref b2), (.ref b2)])) rfl (hb hby at_163)
  have pre97 : ∀ t, Steps p.tables e below (T96.setTop (mkF m 166 #[iv p0, .unset, .unset, .unset] [(.ref (el 23)), (.int (23 : Int32)), (.ref b2), (.ref b2)])) t → Steps p.tables e below (s₁.setTop (entryFrame m #[(.int p0)] maxLocals)) t := by
    intro t kt
    refine pre95 _ ?_
    show Steps p.tables e below (T94.setTop (mkF m 163 #[iv p0, .unset, .unset, .unset] [(.int (23 : Int32)), (.ref b2), (.ref b2)])) _
    refine st96 _ ?_
    exact kt
  obtain ⟨cl98, Ar98, q98, S98, M98, H98, G98⟩ := id V94
  have hin98 : ¬ ((23 : Int32) < 0 ∨ cl98.slots.size ≤ ((23 : Int32)).toNatClampNeg) := inb_of S98 ⟨by decide, by decide⟩
  obtain ⟨T98, h98, X98, e98, W98, st98⟩ := stR X96 hx hZ e96 Ar98 (j := (23 : Int32)) hin98 rfl (Sto.ofV Ar98 q98 O2 (Ins.self ((hE 23 (by decide)).ext (O0.keep K94 all0).2))) (g := (mkF m 166 #[iv p0, .unset, .unset, .unset] [(.ref (el 23)), (.int (23 : Int32)), (.ref b2), (.ref b2)])) rfl rfl (hb hby at_166)
  have V98 : Arv Z h98 b2 k2 (.object "com/example/quadvar/quadvar/model/VariantType") (39 : Int32) [(.ref (el 0)), (.ref (el 1)), (.ref (el 2)), (.ref (el 3)), (.ref (el 4)), (.ref (el 5)), (.ref (el 6)), (.ref (el 7)), (.ref (el 8)), (.ref (el 9)), (.ref (el 10)), (.ref (el 11)), (.ref (el 12)), (.ref (el 13)), (.ref (el 14)), (.ref (el 15)), (.ref (el 16)), (.ref (el 17)), (.ref (el 18)), (.ref (el 19)), (.ref (el 20)), (.ref (el 21)), (.ref (el 22)), (.ref (el 23)), .null, .null, .null, .null, .null, .null, .null, .null, .null, .null, .null, .null, .null, .null, .null] .null := Arv.set Ar98 q98 S98 M98 H98 G98 rfl W98 23 rfl (Nat.le_of_ble_eq_true rfl)
  have K98 : Keep h0 h98 [] := K94.wr W98 (Or.inr sz_b2)
  have N98 := Fr.snoc X98 N94 g_b2
  have pre99 : ∀ t, Steps p.tables e below (T98.setTop (mkF m 170 #[iv p0, .unset, .unset, .unset] [(.int (24 : Int32)), (.ref b2), (.ref b2)])) t → Steps p.tables e below (s₁.setTop (entryFrame m #[(.int p0)] maxLocals)) t := by
    intro t kt
    refine pre97 _ ?_
    show Steps p.tables e below (T96.setTop (mkF m 166 #[iv p0, .unset, .unset, .unset] [(.ref (el 23)), (.int (23 : Int32)), (.ref b2), (.ref b2)])) _
    refine st98 _ ?_
    show Steps p.tables e below (T98.setTop (mkF m 167 #[iv p0, .unset, .unset, .unset] [(.ref b2)])) _
    refine XS.dup X98.here hx rfl (hb hby at_167) rfl rfl ?_
    show Steps p.tables e below (T98.setTop (mkF m 168 #[iv p0, .unset, .unset, .unset] [(.ref b2), (.ref b2)])) _
    refine XS.bipush X98.here hx rfl (hb hby at_168) ?_
    exact kt
  obtain ⟨T100, X100, e100, st100⟩ := getS2 X98 hx hZ hown (host := "") (Or.inl (hw _ (List.mem_of_getElem? (i := 52) rfl))) Via.refl e98 (S_OBJECT.ext (O0.keep K98 all0).2) (g := (mkF m 170 #[iv p0, .unset, .unset, .unset] [(.int (24 : Int32)), (.ref b2), (.ref b2)])) rfl (hb hby at_170)
  have pre101 : ∀ t, Steps p.tables e below (T100.setTop (mkF m 173 #[iv p0, .unset, .unset, .unset] [(.ref (el 24)), (.int (24 : Int32)), (.ref b2), (.ref b2)])) t → Steps p.tables e below (s₁.setTop (entryFrame m #[(.int p0)] maxLocals)) t := by
    intro t kt
    refine pre99 _ ?_
    show Steps p.tables e below (T98.setTop (mkF m 170 #[iv p0, .unset, .unset, .unset] [(.int (24 : Int32)), (.ref b2), (.ref b2)])) _
    refine st100 _ ?_
    exact kt
  obtain ⟨cl102, Ar102, q102, S102, M102, H102, G102⟩ := id V98
  have hin102 : ¬ ((24 : Int32) < 0 ∨ cl102.slots.size ≤ ((24 : Int32)).toNatClampNeg) := inb_of S102 ⟨by decide, by decide⟩
  obtain ⟨T102, h102, X102, e102, W102, st102⟩ := stR X100 hx hZ e100 Ar102 (j := (24 : Int32)) hin102 rfl (Sto.ofV Ar102 q102 O2 (Ins.self ((hE 24 (by decide)).ext (O0.keep K98 all0).2))) (g := (mkF m 173 #[iv p0, .unset, .unset, .unset] [(.ref (el 24)), (.int (24 : Int32)), (.ref b2), (.ref b2)])) rfl rfl (hb hby at_173)
  have V102 : Arv Z h102 b2 k2 (.object "com/example/quadvar/quadvar/model/VariantType") (39 : Int32) [(.ref (el 0)), (.ref (el 1)), (.ref (el 2)), (.ref (el 3)), (.ref (el 4)), (.ref (el 5)), (.ref (el 6)), (.ref (el 7)), (.ref (el 8)), (.ref (el 9)), (.ref (el 10)), (.ref (el 11)), (.ref (el 12)), (.ref (el 13)), (.ref (el 14)), (.ref (el 15)), (.ref (el 16)), (.ref (el 17)), (.ref (el 18)), (.ref (el 19)), (.ref (el 20)), (.ref (el 21)), (.ref (el 22)), (.ref (el 23)), (.ref (el 24)), .null, .null, .null, .null, .null, .null, .null, .null, .null, .null, .null, .null, .null, .null] .null := Arv.set Ar102 q102 S102 M102 H102 G102 rfl W102 24 rfl (Nat.le_of_ble_eq_true rfl)
  have K102 : Keep h0 h102 [] := K98.wr W102 (Or.inr sz_b2)
  have N102 := Fr.snoc X102 N98 g_b2
  have pre103 : ∀ t, Steps p.tables e below (T102.setTop (mkF m 177 #[iv p0, .unset, .unset, .unset] [(.int (25 : Int32)), (.ref b2), (.ref b2)])) t → Steps p.tables e below (s₁.setTop (entryFrame m #[(.int p0)] maxLocals)) t := by
    intro t kt
    refine pre101 _ ?_
    show Steps p.tables e below (T100.setTop (mkF m 173 #[iv p0, .unset, .unset, .unset] [(.ref (el 24)), (.int (24 : Int32)), (.ref b2), (.ref b2)])) _
    refine st102 _ ?_
    show Steps p.tables e below (T102.setTop (mkF m 174 #[iv p0, .unset, .unset, .unset] [(.ref b2)])) _
    refine XS.dup X102.here hx rfl (hb hby at_174) rfl rfl ?_
    show Steps p.tables e below (T102.setTop (mkF m 175 #[iv p0, .unset, .unset, .unset] [(.ref b2), (.ref b2)])) _
    refine XS.bipush X102.here hx rfl (hb hby at_175) ?_
    exact kt
  obtain ⟨T104, X104, e104, st104⟩ := getS2 X102 hx hZ hown (host := "") (Or.inl (hw _ (List.mem_of_getElem? (i := 54) rfl))) Via.refl e102 (S_CALLABLE.ext (O0.keep K102 all0).2) (g := (mkF m 177 #[iv p0, .unset, .unset, .unset] [(.int (25 : Int32)), (.ref b2), (.ref b2)])) rfl (hb hby at_177)
  have pre105 : ∀ t, Steps p.tables e below (T104.setTop (mkF m 180 #[iv p0, .unset, .unset, .unset] [(.ref (el 25)), (.int (25 : Int32)), (.ref b2), (.ref b2)])) t → Steps p.tables e below (s₁.setTop (entryFrame m #[(.int p0)] maxLocals)) t := by
    intro t kt
    refine pre103 _ ?_
    show Steps p.tables e below (T102.setTop (mkF m 177 #[iv p0, .unset, .unset, .unset] [(.int (25 : Int32)), (.ref b2), (.ref b2)])) _
    refine st104 _ ?_
    exact kt
  obtain ⟨cl106, Ar106, q106, S106, M106, H106, G106⟩ := id V102
  have hin106 : ¬ ((25 : Int32) < 0 ∨ cl106.slots.size ≤ ((25 : Int32)).toNatClampNeg) := inb_of S106 ⟨by decide, by decide⟩
  obtain ⟨T106, h106, X106, e106, W106, st106⟩ := stR X104 hx hZ e104 Ar106 (j := (25 : Int32)) hin106 rfl (Sto.ofV Ar106 q106 O2 (Ins.self ((hE 25 (by decide)).ext (O0.keep K102 all0).2))) (g := (mkF m 180 #[iv p0, .unset, .unset, .unset] [(.ref (el 25)), (.int (25 : Int32)), (.ref b2), (.ref b2)])) rfl rfl (hb hby at_180)
  have V106 : Arv Z h106 b2 k2 (.object "com/example/quadvar/quadvar/model/VariantType") (39 : Int32) [(.ref (el 0)), (.ref (el 1)), (.ref (el 2)), (.ref (el 3)), (.ref (el 4)), (.ref (el 5)), (.ref (el 6)), (.ref (el 7)), (.ref (el 8)), (.ref (el 9)), (.ref (el 10)), (.ref (el 11)), (.ref (el 12)), (.ref (el 13)), (.ref (el 14)), (.ref (el 15)), (.ref (el 16)), (.ref (el 17)), (.ref (el 18)), (.ref (el 19)), (.ref (el 20)), (.ref (el 21)), (.ref (el 22)), (.ref (el 23)), (.ref (el 24)), (.ref (el 25)), .null, .null, .null, .null, .null, .null, .null, .null, .null, .null, .null, .null, .null] .null := Arv.set Ar106 q106 S106 M106 H106 G106 rfl W106 25 rfl (Nat.le_of_ble_eq_true rfl)
  have K106 : Keep h0 h106 [] := K102.wr W106 (Or.inr sz_b2)
  have N106 := Fr.snoc X106 N102 g_b2
  have pre107 : ∀ t, Steps p.tables e below (T106.setTop (mkF m 184 #[iv p0, .unset, .unset, .unset] [(.int (26 : Int32)), (.ref b2), (.ref b2)])) t → Steps p.tables e below (s₁.setTop (entryFrame m #[(.int p0)] maxLocals)) t := by
    intro t kt
    refine pre105 _ ?_
    show Steps p.tables e below (T104.setTop (mkF m 180 #[iv p0, .unset, .unset, .unset] [(.ref (el 25)), (.int (25 : Int32)), (.ref b2), (.ref b2)])) _
    refine st106 _ ?_
    show Steps p.tables e below (T106.setTop (mkF m 181 #[iv p0, .unset, .unset, .unset] [(.ref b2)])) _
    refine XS.dup X106.here hx rfl (hb hby at_181) rfl rfl ?_
    show Steps p.tables e below (T106.setTop (mkF m 182 #[iv p0, .unset, .unset, .unset] [(.ref b2), (.ref b2)])) _
    refine XS.bipush X106.here hx rfl (hb hby at_182) ?_
    exact kt
  obtain ⟨T108, X108, e108, st108⟩ := getS2 X106 hx hZ hown (host := "") (Or.inl (hw _ (List.mem_of_getElem? (i := 56) rfl))) Via.refl e106 (S_SIGNAL.ext (O0.keep K106 all0).2) (g := (mkF m 184 #[iv p0, .unset, .unset, .unset] [(.int (26 : Int32)), (.ref b2), (.ref b2)])) rfl (hb hby at_184)
  have pre109 : ∀ t, Steps p.tables e below (T108.setTop (mkF m 187 #[iv p0, .unset, .unset, .unset] [(.ref (el 26)), (.int (26 : Int32)), (.ref b2), (.ref b2)])) t → Steps p.tables e below (s₁.setTop (entryFrame m #[(.int p0)] maxLocals)) t := by
    intro t kt
    refine pre107 _ ?_
    show Steps p.tables e below (T106.setTop (mkF m 184 #[iv p0, .unset, .unset, .unset] [(.int (26 : Int32)), (.ref b2), (.ref b2)])) _
    refine st108 _ ?_
    exact kt
  obtain ⟨cl110, Ar110, q110, S110, M110, H110, G110⟩ := id V106
  have hin110 : ¬ ((26 : Int32) < 0 ∨ cl110.slots.size ≤ ((26 : Int32)).toNatClampNeg) := inb_of S110 ⟨by decide, by decide⟩
  obtain ⟨T110, h110, X110, e110, W110, st110⟩ := stR X108 hx hZ e108 Ar110 (j := (26 : Int32)) hin110 rfl (Sto.ofV Ar110 q110 O2 (Ins.self ((hE 26 (by decide)).ext (O0.keep K106 all0).2))) (g := (mkF m 187 #[iv p0, .unset, .unset, .unset] [(.ref (el 26)), (.int (26 : Int32)), (.ref b2), (.ref b2)])) rfl rfl (hb hby at_187)
  have V110 : Arv Z h110 b2 k2 (.object "com/example/quadvar/quadvar/model/VariantType") (39 : Int32) [(.ref (el 0)), (.ref (el 1)), (.ref (el 2)), (.ref (el 3)), (.ref (el 4)), (.ref (el 5)), (.ref (el 6)), (.ref (el 7)), (.ref (el 8)), (.ref (el 9)), (.ref (el 10)), (.ref (el 11)), (.ref (el 12)), (.ref (el 13)), (.ref (el 14)), (.ref (el 15)), (.ref (el 16)), (.ref (el 17)), (.ref (el 18)), (.ref (el 19)), (.ref (el 20)), (.ref (el 21)), (.ref (el 22)), (.ref (el 23)), (.ref (el 24)), (.ref (el 25)), (.ref (el 26)), .null, .null, .null, .null, .null, .null, .null, .null, .null, .null, .null, .null] .null := Arv.set Ar110 q110 S110 M110 H110 G110 rfl W110 26 rfl (Nat.le_of_ble_eq_true rfl)
  have K110 : Keep h0 h110 [] := K106.wr W110 (Or.inr sz_b2)
  have N110 := Fr.snoc X110 N106 g_b2
  have pre111 : ∀ t, Steps p.tables e below (T110.setTop (mkF m 191 #[iv p0, .unset, .unset, .unset] [(.int (27 : Int32)), (.ref b2), (.ref b2)])) t → Steps p.tables e below (s₁.setTop (entryFrame m #[(.int p0)] maxLocals)) t := by
    intro t kt
    refine pre109 _ ?_
    show Steps p.tables e below (T108.setTop (mkF m 187 #[iv p0, .unset, .unset, .unset] [(.ref (el 26)), (.int (26 : Int32)), (.ref b2), (.ref b2)])) _
    refine st110 _ ?_
    show Steps p.tables e below (T110.setTop (mkF m 188 #[iv p0, .unset, .unset, .unset] [(.ref b2)])) _
    refine XS.dup X110.here hx rfl (hb hby at_188) rfl rfl ?_
    show Steps p.tables e below (T110.setTop (mkF m 189 #[iv p0, .unset, .unset, .unset] [(.ref b2), (.ref b2)])) _
    refine XS.bipush X110.here hx rfl (hb hby at_189) ?_
    exact kt
  obtain ⟨T112, X112, e112, st112⟩ := getS2 X110 hx hZ hown (host := "") (Or.inl (hw _ (List.mem_of_getElem? (i := 58) rfl))) Via.refl e110 (S_DICTIONARY.ext (O0.keep K110 all0).2) (g := (mkF m 191 #[iv p0, .unset, .unset, .unset] [(.int (27 : Int32)), (.ref b2), (.ref b2)])) rfl (hb hby at_191)
  have pre113 : ∀ t, Steps p.tables e below (T112.setTop (mkF m 194 #[iv p0, .unset, .unset, .unset] [(.ref (el 27)), (.int (27 : Int32)), (.ref b2), (.ref b2)])) t → Steps p.tables e below (s₁.setTop (entryFrame m #[(.int p0)] maxLocals)) t := by
    intro t kt
    refine pre111 _ ?_
    show Steps p.tables e below (T110.setTop (mkF m 191 #[iv p0, .unset, .unset, .unset] [(.int (27 : Int32)), (.ref b2), (.ref b2)])) _
    refine st112 _ ?_
    exact kt
  obtain ⟨cl114, Ar114, q114, S114, M114, H114, G114⟩ := id V110
  have hin114 : ¬ ((27 : Int32) < 0 ∨ cl114.slots.size ≤ ((27 : Int32)).toNatClampNeg) := inb_of S114 ⟨by decide, by decide⟩
  obtain ⟨T114, h114, X114, e114, W114, st114⟩ := stR X112 hx hZ e112 Ar114 (j := (27 : Int32)) hin114 rfl (Sto.ofV Ar114 q114 O2 (Ins.self ((hE 27 (by decide)).ext (O0.keep K110 all0).2))) (g := (mkF m 194 #[iv p0, .unset, .unset, .unset] [(.ref (el 27)), (.int (27 : Int32)), (.ref b2), (.ref b2)])) rfl rfl (hb hby at_194)
  have V114 : Arv Z h114 b2 k2 (.object "com/example/quadvar/quadvar/model/VariantType") (39 : Int32) [(.ref (el 0)), (.ref (el 1)), (.ref (el 2)), (.ref (el 3)), (.ref (el 4)), (.ref (el 5)), (.ref (el 6)), (.ref (el 7)), (.ref (el 8)), (.ref (el 9)), (.ref (el 10)), (.ref (el 11)), (.ref (el 12)), (.ref (el 13)), (.ref (el 14)), (.ref (el 15)), (.ref (el 16)), (.ref (el 17)), (.ref (el 18)), (.ref (el 19)), (.ref (el 20)), (.ref (el 21)), (.ref (el 22)), (.ref (el 23)), (.ref (el 24)), (.ref (el 25)), (.ref (el 26)), (.ref (el 27)), .null, .null, .null, .null, .null, .null, .null, .null, .null, .null, .null] .null := Arv.set Ar114 q114 S114 M114 H114 G114 rfl W114 27 rfl (Nat.le_of_ble_eq_true rfl)
  have K114 : Keep h0 h114 [] := K110.wr W114 (Or.inr sz_b2)
  have N114 := Fr.snoc X114 N110 g_b2
  have pre115 : ∀ t, Steps p.tables e below (T114.setTop (mkF m 198 #[iv p0, .unset, .unset, .unset] [(.int (28 : Int32)), (.ref b2), (.ref b2)])) t → Steps p.tables e below (s₁.setTop (entryFrame m #[(.int p0)] maxLocals)) t := by
    intro t kt
    refine pre113 _ ?_
    show Steps p.tables e below (T112.setTop (mkF m 194 #[iv p0, .unset, .unset, .unset] [(.ref (el 27)), (.int (27 : Int32)), (.ref b2), (.ref b2)])) _
    refine st114 _ ?_
    show Steps p.tables e below (T114.setTop (mkF m 195 #[iv p0, .unset, .unset, .unset] [(.ref b2)])) _
    refine XS.dup X114.here hx rfl (hb hby at_195) rfl rfl ?_
    show Steps p.tables e below (T114.setTop (mkF m 196 #[iv p0, .unset, .unset, .unset] [(.ref b2), (.ref b2)])) _
    refine XS.bipush X114.here hx rfl (hb hby at_196) ?_
    exact kt
  obtain ⟨T116, X116, e116, st116⟩ := getS2 X114 hx hZ hown (host := "") (Or.inl (hw _ (List.mem_of_getElem? (i := 60) rfl))) Via.refl e114 (S_ARRAY.ext (O0.keep K114 all0).2) (g := (mkF m 198 #[iv p0, .unset, .unset, .unset] [(.int (28 : Int32)), (.ref b2), (.ref b2)])) rfl (hb hby at_198)
  have pre117 : ∀ t, Steps p.tables e below (T116.setTop (mkF m 201 #[iv p0, .unset, .unset, .unset] [(.ref (el 28)), (.int (28 : Int32)), (.ref b2), (.ref b2)])) t → Steps p.tables e below (s₁.setTop (entryFrame m #[(.int p0)] maxLocals)) t := by
    intro t kt
    refine pre115 _ ?_
    show Steps p.tables e below (T114.setTop (mkF m 198 #[iv p0, .unset, .unset, .unset] [(.int (28 : Int32)), (.ref b2), (.ref b2)])) _
    refine st116 _ ?_
    exact kt
  obtain ⟨cl118, Ar118, q118, S118, M118, H118, G118⟩ := id V114
  have hin118 : ¬ ((28 : Int32) < 0 ∨ cl118.slots.size ≤ ((28 : Int32)).toNatClampNeg) := inb_of S118 ⟨by decide, by decide⟩
  obtain ⟨T118, h118, X118, e118, W118, st118⟩ := stR X116 hx hZ e116 Ar118 (j := (28 : Int32)) hin118 rfl (Sto.ofV Ar118 q118 O2 (Ins.self ((hE 28 (by decide)).ext (O0.keep K114 all0).2))) (g := (mkF m 201 #[iv p0, .unset, .unset, .unset] [(.ref (el 28)), (.int (28 : Int32)), (.ref b2), (.ref b2)])) rfl rfl (hb hby at_201)
  have V118 : Arv Z h118 b2 k2 (.object "com/example/quadvar/quadvar/model/VariantType") (39 : Int32) [(.ref (el 0)), (.ref (el 1)), (.ref (el 2)), (.ref (el 3)), (.ref (el 4)), (.ref (el 5)), (.ref (el 6)), (.ref (el 7)), (.ref (el 8)), (.ref (el 9)), (.ref (el 10)), (.ref (el 11)), (.ref (el 12)), (.ref (el 13)), (.ref (el 14)), (.ref (el 15)), (.ref (el 16)), (.ref (el 17)), (.ref (el 18)), (.ref (el 19)), (.ref (el 20)), (.ref (el 21)), (.ref (el 22)), (.ref (el 23)), (.ref (el 24)), (.ref (el 25)), (.ref (el 26)), (.ref (el 27)), (.ref (el 28)), .null, .null, .null, .null, .null, .null, .null, .null, .null, .null] .null := Arv.set Ar118 q118 S118 M118 H118 G118 rfl W118 28 rfl (Nat.le_of_ble_eq_true rfl)
  have K118 : Keep h0 h118 [] := K114.wr W118 (Or.inr sz_b2)
  have N118 := Fr.snoc X118 N114 g_b2
  have pre119 : ∀ t, Steps p.tables e below (T118.setTop (mkF m 205 #[iv p0, .unset, .unset, .unset] [(.int (29 : Int32)), (.ref b2), (.ref b2)])) t → Steps p.tables e below (s₁.setTop (entryFrame m #[(.int p0)] maxLocals)) t := by
    intro t kt
    refine pre117 _ ?_
    show Steps p.tables e below (T116.setTop (mkF m 201 #[iv p0, .unset, .unset, .unset] [(.ref (el 28)), (.int (28 : Int32)), (.ref b2), (.ref b2)])) _
    refine st118 _ ?_
    show Steps p.tables e below (T118.setTop (mkF m 202 #[iv p0, .unset, .unset, .unset] [(.ref b2)])) _
    refine XS.dup X118.here hx rfl (hb hby at_202) rfl rfl ?_
    show Steps p.tables e below (T118.setTop (mkF m 203 #[iv p0, .unset, .unset, .unset] [(.ref b2), (.ref b2)])) _
    refine XS.bipush X118.here hx rfl (hb hby at_203) ?_
    exact kt
  obtain ⟨T120, X120, e120, st120⟩ := getS2 X118 hx hZ hown (host := "") (Or.inl (hw _ (List.mem_of_getElem? (i := 62) rfl))) Via.refl e118 (S_PACKED_BYTE_ARRAY.ext (O0.keep K118 all0).2) (g := (mkF m 205 #[iv p0, .unset, .unset, .unset] [(.int (29 : Int32)), (.ref b2), (.ref b2)])) rfl (hb hby at_205)
  have pre121 : ∀ t, Steps p.tables e below (T120.setTop (mkF m 208 #[iv p0, .unset, .unset, .unset] [(.ref (el 29)), (.int (29 : Int32)), (.ref b2), (.ref b2)])) t → Steps p.tables e below (s₁.setTop (entryFrame m #[(.int p0)] maxLocals)) t := by
    intro t kt
    refine pre119 _ ?_
    show Steps p.tables e below (T118.setTop (mkF m 205 #[iv p0, .unset, .unset, .unset] [(.int (29 : Int32)), (.ref b2), (.ref b2)])) _
    refine st120 _ ?_
    exact kt
  obtain ⟨cl122, Ar122, q122, S122, M122, H122, G122⟩ := id V118
  have hin122 : ¬ ((29 : Int32) < 0 ∨ cl122.slots.size ≤ ((29 : Int32)).toNatClampNeg) := inb_of S122 ⟨by decide, by decide⟩
  obtain ⟨T122, h122, X122, e122, W122, st122⟩ := stR X120 hx hZ e120 Ar122 (j := (29 : Int32)) hin122 rfl (Sto.ofV Ar122 q122 O2 (Ins.self ((hE 29 (by decide)).ext (O0.keep K118 all0).2))) (g := (mkF m 208 #[iv p0, .unset, .unset, .unset] [(.ref (el 29)), (.int (29 : Int32)), (.ref b2), (.ref b2)])) rfl rfl (hb hby at_208)
  have V122 : Arv Z h122 b2 k2 (.object "com/example/quadvar/quadvar/model/VariantType") (39 : Int32) [(.ref (el 0)), (.ref (el 1)), (.ref (el 2)), (.ref (el 3)), (.ref (el 4)), (.ref (el 5)), (.ref (el 6)), (.ref (el 7)), (.ref (el 8)), (.ref (el 9)), (.ref (el 10)), (.ref (el 11)), (.ref (el 12)), (.ref (el 13)), (.ref (el 14)), (.ref (el 15)), (.ref (el 16)), (.ref (el 17)), (.ref (el 18)), (.ref (el 19)), (.ref (el 20)), (.ref (el 21)), (.ref (el 22)), (.ref (el 23)), (.ref (el 24)), (.ref (el 25)), (.ref (el 26)), (.ref (el 27)), (.ref (el 28)), (.ref (el 29)), .null, .null, .null, .null, .null, .null, .null, .null, .null] .null := Arv.set Ar122 q122 S122 M122 H122 G122 rfl W122 29 rfl (Nat.le_of_ble_eq_true rfl)
  have K122 : Keep h0 h122 [] := K118.wr W122 (Or.inr sz_b2)
  have N122 := Fr.snoc X122 N118 g_b2
  have pre123 : ∀ t, Steps p.tables e below (T122.setTop (mkF m 212 #[iv p0, .unset, .unset, .unset] [(.int (30 : Int32)), (.ref b2), (.ref b2)])) t → Steps p.tables e below (s₁.setTop (entryFrame m #[(.int p0)] maxLocals)) t := by
    intro t kt
    refine pre121 _ ?_
    show Steps p.tables e below (T120.setTop (mkF m 208 #[iv p0, .unset, .unset, .unset] [(.ref (el 29)), (.int (29 : Int32)), (.ref b2), (.ref b2)])) _
    refine st122 _ ?_
    show Steps p.tables e below (T122.setTop (mkF m 209 #[iv p0, .unset, .unset, .unset] [(.ref b2)])) _
    refine XS.dup X122.here hx rfl (hb hby at_209) rfl rfl ?_
    show Steps p.tables e below (T122.setTop (mkF m 210 #[iv p0, .unset, .unset, .unset] [(.ref b2), (.ref b2)])) _
    refine XS.bipush X122.here hx rfl (hb hby at_210) ?_
    exact kt
  obtain ⟨T124, X124, e124, st124⟩ := getS2 X122 hx hZ hown (host := "") (Or.inl (hw _ (List.mem_of_getElem? (i := 64) rfl))) Via.refl e122 (S_PACKED_INT32_ARRAY.ext (O0.keep K122 all0).2) (g := (mkF m 212 #[iv p0, .unset, .unset, .unset] [(.int (30 : Int32)), (.ref b2), (.ref b2)])) rfl (hb hby at_212)
  have pre125 : ∀ t, Steps p.tables e below (T124.setTop (mkF m 215 #[iv p0, .unset, .unset, .unset] [(.ref (el 30)), (.int (30 : Int32)), (.ref b2), (.ref b2)])) t → Steps p.tables e below (s₁.setTop (entryFrame m #[(.int p0)] maxLocals)) t := by
    intro t kt
    refine pre123 _ ?_
    show Steps p.tables e below (T122.setTop (mkF m 212 #[iv p0, .unset, .unset, .unset] [(.int (30 : Int32)), (.ref b2), (.ref b2)])) _
    refine st124 _ ?_
    exact kt
  obtain ⟨cl126, Ar126, q126, S126, M126, H126, G126⟩ := id V122
  have hin126 : ¬ ((30 : Int32) < 0 ∨ cl126.slots.size ≤ ((30 : Int32)).toNatClampNeg) := inb_of S126 ⟨by decide, by decide⟩
  obtain ⟨T126, h126, X126, e126, W126, st126⟩ := stR X124 hx hZ e124 Ar126 (j := (30 : Int32)) hin126 rfl (Sto.ofV Ar126 q126 O2 (Ins.self ((hE 30 (by decide)).ext (O0.keep K122 all0).2))) (g := (mkF m 215 #[iv p0, .unset, .unset, .unset] [(.ref (el 30)), (.int (30 : Int32)), (.ref b2), (.ref b2)])) rfl rfl (hb hby at_215)
  have V126 : Arv Z h126 b2 k2 (.object "com/example/quadvar/quadvar/model/VariantType") (39 : Int32) [(.ref (el 0)), (.ref (el 1)), (.ref (el 2)), (.ref (el 3)), (.ref (el 4)), (.ref (el 5)), (.ref (el 6)), (.ref (el 7)), (.ref (el 8)), (.ref (el 9)), (.ref (el 10)), (.ref (el 11)), (.ref (el 12)), (.ref (el 13)), (.ref (el 14)), (.ref (el 15)), (.ref (el 16)), (.ref (el 17)), (.ref (el 18)), (.ref (el 19)), (.ref (el 20)), (.ref (el 21)), (.ref (el 22)), (.ref (el 23)), (.ref (el 24)), (.ref (el 25)), (.ref (el 26)), (.ref (el 27)), (.ref (el 28)), (.ref (el 29)), (.ref (el 30)), .null, .null, .null, .null, .null, .null, .null, .null] .null := Arv.set Ar126 q126 S126 M126 H126 G126 rfl W126 30 rfl (Nat.le_of_ble_eq_true rfl)
  have K126 : Keep h0 h126 [] := K122.wr W126 (Or.inr sz_b2)
  have N126 := Fr.snoc X126 N122 g_b2
  have pre127 : ∀ t, Steps p.tables e below (T126.setTop (mkF m 219 #[iv p0, .unset, .unset, .unset] [(.int (31 : Int32)), (.ref b2), (.ref b2)])) t → Steps p.tables e below (s₁.setTop (entryFrame m #[(.int p0)] maxLocals)) t := by
    intro t kt
    refine pre125 _ ?_
    show Steps p.tables e below (T124.setTop (mkF m 215 #[iv p0, .unset, .unset, .unset] [(.ref (el 30)), (.int (30 : Int32)), (.ref b2), (.ref b2)])) _
    refine st126 _ ?_
    show Steps p.tables e below (T126.setTop (mkF m 216 #[iv p0, .unset, .unset, .unset] [(.ref b2)])) _
    refine XS.dup X126.here hx rfl (hb hby at_216) rfl rfl ?_
    show Steps p.tables e below (T126.setTop (mkF m 217 #[iv p0, .unset, .unset, .unset] [(.ref b2), (.ref b2)])) _
    refine XS.bipush X126.here hx rfl (hb hby at_217) ?_
    exact kt
  obtain ⟨T128, X128, e128, st128⟩ := getS2 X126 hx hZ hown (host := "") (Or.inl (hw _ (List.mem_of_getElem? (i := 66) rfl))) Via.refl e126 (S_PACKED_INT64_ARRAY.ext (O0.keep K126 all0).2) (g := (mkF m 219 #[iv p0, .unset, .unset, .unset] [(.int (31 : Int32)), (.ref b2), (.ref b2)])) rfl (hb hby at_219)
  have pre129 : ∀ t, Steps p.tables e below (T128.setTop (mkF m 222 #[iv p0, .unset, .unset, .unset] [(.ref (el 31)), (.int (31 : Int32)), (.ref b2), (.ref b2)])) t → Steps p.tables e below (s₁.setTop (entryFrame m #[(.int p0)] maxLocals)) t := by
    intro t kt
    refine pre127 _ ?_
    show Steps p.tables e below (T126.setTop (mkF m 219 #[iv p0, .unset, .unset, .unset] [(.int (31 : Int32)), (.ref b2), (.ref b2)])) _
    refine st128 _ ?_
    exact kt
  obtain ⟨cl130, Ar130, q130, S130, M130, H130, G130⟩ := id V126
  have hin130 : ¬ ((31 : Int32) < 0 ∨ cl130.slots.size ≤ ((31 : Int32)).toNatClampNeg) := inb_of S130 ⟨by decide, by decide⟩
  obtain ⟨T130, h130, X130, e130, W130, st130⟩ := stR X128 hx hZ e128 Ar130 (j := (31 : Int32)) hin130 rfl (Sto.ofV Ar130 q130 O2 (Ins.self ((hE 31 (by decide)).ext (O0.keep K126 all0).2))) (g := (mkF m 222 #[iv p0, .unset, .unset, .unset] [(.ref (el 31)), (.int (31 : Int32)), (.ref b2), (.ref b2)])) rfl rfl (hb hby at_222)
  have V130 : Arv Z h130 b2 k2 (.object "com/example/quadvar/quadvar/model/VariantType") (39 : Int32) [(.ref (el 0)), (.ref (el 1)), (.ref (el 2)), (.ref (el 3)), (.ref (el 4)), (.ref (el 5)), (.ref (el 6)), (.ref (el 7)), (.ref (el 8)), (.ref (el 9)), (.ref (el 10)), (.ref (el 11)), (.ref (el 12)), (.ref (el 13)), (.ref (el 14)), (.ref (el 15)), (.ref (el 16)), (.ref (el 17)), (.ref (el 18)), (.ref (el 19)), (.ref (el 20)), (.ref (el 21)), (.ref (el 22)), (.ref (el 23)), (.ref (el 24)), (.ref (el 25)), (.ref (el 26)), (.ref (el 27)), (.ref (el 28)), (.ref (el 29)), (.ref (el 30)), (.ref (el 31)), .null, .null, .null, .null, .null, .null, .null] .null := Arv.set Ar130 q130 S130 M130 H130 G130 rfl W130 31 rfl (Nat.le_of_ble_eq_true rfl)
  have K130 : Keep h0 h130 [] := K126.wr W130 (Or.inr sz_b2)
  have N130 := Fr.snoc X130 N126 g_b2
  have pre131 : ∀ t, Steps p.tables e below (T130.setTop (mkF m 226 #[iv p0, .unset, .unset, .unset] [(.int (32 : Int32)), (.ref b2), (.ref b2)])) t → Steps p.tables e below (s₁.setTop (entryFrame m #[(.int p0)] maxLocals)) t := by
    intro t kt
    refine pre129 _ ?_
    show Steps p.tables e below (T128.setTop (mkF m 222 #[iv p0, .unset, .unset, .unset] [(.ref (el 31)), (.int (31 : Int32)), (.ref b2), (.ref b2)])) _
    refine st130 _ ?_
    show Steps p.tables e below (T130.setTop (mkF m 223 #[iv p0, .unset, .unset, .unset] [(.ref b2)])) _
    refine XS.dup X130.here hx rfl (hb hby at_223) rfl rfl ?_
    show Steps p.tables e below (T130.setTop (mkF m 224 #[iv p0, .unset, .unset, .unset] [(.ref b2), (.ref b2)])) _
    refine XS.bipush X130.here hx rfl (hb hby at_224) ?_
    exact kt
  obtain ⟨T132, X132, e132, st132⟩ := getS2 X130 hx hZ hown (host := "") (Or.inl (hw _ (List.mem_of_getElem? (i := 68) rfl))) Via.refl e130 (S_PACKED_FLOAT32_ARRAY.ext (O0.keep K130 all0).2) (g := (mkF m 226 #[iv p0, .unset, .unset, .unset] [(.int (32 : Int32)), (.ref b2), (.ref b2)])) rfl (hb hby at_226)
  have pre133 : ∀ t, Steps p.tables e below (T132.setTop (mkF m 229 #[iv p0, .unset, .unset, .unset] [(.ref (el 32)), (.int (32 : Int32)), (.ref b2), (.ref b2)])) t → Steps p.tables e below (s₁.setTop (entryFrame m #[(.int p0)] maxLocals)) t := by
    intro t kt
    refine pre131 _ ?_
    show Steps p.tables e below (T130.setTop (mkF m 226 #[iv p0, .unset, .unset, .unset] [(.int (32 : Int32)), (.ref b2), (.ref b2)])) _
    refine st132 _ ?_
    exact kt
  obtain ⟨cl134, Ar134, q134, S134, M134, H134, G134⟩ := id V130
  have hin134 : ¬ ((32 : Int32) < 0 ∨ cl134.slots.size ≤ ((32 : Int32)).toNatClampNeg) := inb_of S134 ⟨by decide, by decide⟩
  obtain ⟨T134, h134, X134, e134, W134, st134⟩ := stR X132 hx hZ e132 Ar134 (j := (32 : Int32)) hin134 rfl (Sto.ofV Ar134 q134 O2 (Ins.self ((hE 32 (by decide)).ext (O0.keep K130 all0).2))) (g := (mkF m 229 #[iv p0, .unset, .unset, .unset] [(.ref (el 32)), (.int (32 : Int32)), (.ref b2), (.ref b2)])) rfl rfl (hb hby at_229)
  have V134 : Arv Z h134 b2 k2 (.object "com/example/quadvar/quadvar/model/VariantType") (39 : Int32) [(.ref (el 0)), (.ref (el 1)), (.ref (el 2)), (.ref (el 3)), (.ref (el 4)), (.ref (el 5)), (.ref (el 6)), (.ref (el 7)), (.ref (el 8)), (.ref (el 9)), (.ref (el 10)), (.ref (el 11)), (.ref (el 12)), (.ref (el 13)), (.ref (el 14)), (.ref (el 15)), (.ref (el 16)), (.ref (el 17)), (.ref (el 18)), (.ref (el 19)), (.ref (el 20)), (.ref (el 21)), (.ref (el 22)), (.ref (el 23)), (.ref (el 24)), (.ref (el 25)), (.ref (el 26)), (.ref (el 27)), (.ref (el 28)), (.ref (el 29)), (.ref (el 30)), (.ref (el 31)), (.ref (el 32)), .null, .null, .null, .null, .null, .null] .null := Arv.set Ar134 q134 S134 M134 H134 G134 rfl W134 32 rfl (Nat.le_of_ble_eq_true rfl)
  have K134 : Keep h0 h134 [] := K130.wr W134 (Or.inr sz_b2)
  have N134 := Fr.snoc X134 N130 g_b2
  have pre135 : ∀ t, Steps p.tables e below (T134.setTop (mkF m 233 #[iv p0, .unset, .unset, .unset] [(.int (33 : Int32)), (.ref b2), (.ref b2)])) t → Steps p.tables e below (s₁.setTop (entryFrame m #[(.int p0)] maxLocals)) t := by
    intro t kt
    refine pre133 _ ?_
    show Steps p.tables e below (T132.setTop (mkF m 229 #[iv p0, .unset, .unset, .unset] [(.ref (el 32)), (.int (32 : Int32)), (.ref b2), (.ref b2)])) _
    refine st134 _ ?_
    show Steps p.tables e below (T134.setTop (mkF m 230 #[iv p0, .unset, .unset, .unset] [(.ref b2)])) _
    refine XS.dup X134.here hx rfl (hb hby at_230) rfl rfl ?_
    show Steps p.tables e below (T134.setTop (mkF m 231 #[iv p0, .unset, .unset, .unset] [(.ref b2), (.ref b2)])) _
    refine XS.bipush X134.here hx rfl (hb hby at_231) ?_
    exact kt
  obtain ⟨T136, X136, e136, st136⟩ := getS2 X134 hx hZ hown (host := "") (Or.inl (hw _ (List.mem_of_getElem? (i := 70) rfl))) Via.refl e134 (S_PACKED_FLOAT64_ARRAY.ext (O0.keep K134 all0).2) (g := (mkF m 233 #[iv p0, .unset, .unset, .unset] [(.int (33 : Int32)), (.ref b2), (.ref b2)])) rfl (hb hby at_233)
  have pre137 : ∀ t, Steps p.tables e below (T136.setTop (mkF m 236 #[iv p0, .unset, .unset, .unset] [(.ref (el 33)), (.int (33 : Int32)), (.ref b2), (.ref b2)])) t → Steps p.tables e below (s₁.setTop (entryFrame m #[(.int p0)] maxLocals)) t := by
    intro t kt
    refine pre135 _ ?_
    show Steps p.tables e below (T134.setTop (mkF m 233 #[iv p0, .unset, .unset, .unset] [(.int (33 : Int32)), (.ref b2), (.ref b2)])) _
    refine st136 _ ?_
    exact kt
  obtain ⟨cl138, Ar138, q138, S138, M138, H138, G138⟩ := id V134
  have hin138 : ¬ ((33 : Int32) < 0 ∨ cl138.slots.size ≤ ((33 : Int32)).toNatClampNeg) := inb_of S138 ⟨by decide, by decide⟩
  obtain ⟨T138, h138, X138, e138, W138, st138⟩ := stR X136 hx hZ e136 Ar138 (j := (33 : Int32)) hin138 rfl (Sto.ofV Ar138 q138 O2 (Ins.self ((hE 33 (by decide)).ext (O0.keep K134 all0).2))) (g := (mkF m 236 #[iv p0, .unset, .unset, .unset] [(.ref (el 33)), (.int (33 : Int32)), (.ref b2), (.ref b2)])) rfl rfl (hb hby at_236)
  have V138 : Arv Z h138 b2 k2 (.object "com/example/quadvar/quadvar/model/VariantType") (39 : Int32) [(.ref (el 0)), (.ref (el 1)), (.ref (el 2)), (.ref (el 3)), (.ref (el 4)), (.ref (el 5)), (.ref (el 6)), (.ref (el 7)), (.ref (el 8)), (.ref (el 9)), (.ref (el 10)), (.ref (el 11)), (.ref (el 12)), (.ref (el 13)), (.ref (el 14)), (.ref (el 15)), (.ref (el 16)), (.ref (el 17)), (.ref (el 18)), (.ref (el 19)), (.ref (el 20)), (.ref (el 21)), (.ref (el 22)), (.ref (el 23)), (.ref (el 24)), (.ref (el 25)), (.ref (el 26)), (.ref (el 27)), (.ref (el 28)), (.ref (el 29)), (.ref (el 30)), (.ref (el 31)), (.ref (el 32)), (.ref (el 33)), .null, .null, .null, .null, .null] .null := Arv.set Ar138 q138 S138 M138 H138 G138 rfl W138 33 rfl (Nat.le_of_ble_eq_true rfl)
  have K138 : Keep h0 h138 [] := K134.wr W138 (Or.inr sz_b2)
  have N138 := Fr.snoc X138 N134 g_b2
  have pre139 : ∀ t, Steps p.tables e below (T138.setTop (mkF m 240 #[iv p0, .unset, .unset, .unset] [(.int (34 : Int32)), (.ref b2), (.ref b2)])) t → Steps p.tables e below (s₁.setTop (entryFrame m #[(.int p0)] maxLocals)) t := by
    intro t kt
    refine pre137 _ ?_
    show Steps p.tables e below (T136.setTop (mkF m 236 #[iv p0, .unset, .unset, .unset] [(.ref (el 33)), (.int (33 : Int32)), (.ref b2), (.ref b2)])) _
    refine st138 _ ?_
    show Steps p.tables e below (T138.setTop (mkF m 237 #[iv p0, .unset, .unset, .unset] [(.ref b2)])) _
    refine XS.dup X138.here hx rfl (hb hby at_237) rfl rfl ?_
    show Steps p.tables e below (T138.setTop (mkF m 238 #[iv p0, .unset, .unset, .unset] [(.ref b2), (.ref b2)])) _
    refine XS.bipush X138.here hx rfl (hb hby at_238) ?_
    exact kt
  obtain ⟨T140, X140, e140, st140⟩ := getS2 X138 hx hZ hown (host := "") (Or.inl (hw _ (List.mem_of_getElem? (i := 72) rfl))) Via.refl e138 (S_PACKED_STRING_ARRAY.ext (O0.keep K138 all0).2) (g := (mkF m 240 #[iv p0, .unset, .unset, .unset] [(.int (34 : Int32)), (.ref b2), (.ref b2)])) rfl (hb hby at_240)
  have pre141 : ∀ t, Steps p.tables e below (T140.setTop (mkF m 243 #[iv p0, .unset, .unset, .unset] [(.ref (el 34)), (.int (34 : Int32)), (.ref b2), (.ref b2)])) t → Steps p.tables e below (s₁.setTop (entryFrame m #[(.int p0)] maxLocals)) t := by
    intro t kt
    refine pre139 _ ?_
    show Steps p.tables e below (T138.setTop (mkF m 240 #[iv p0, .unset, .unset, .unset] [(.int (34 : Int32)), (.ref b2), (.ref b2)])) _
    refine st140 _ ?_
    exact kt
  obtain ⟨cl142, Ar142, q142, S142, M142, H142, G142⟩ := id V138
  have hin142 : ¬ ((34 : Int32) < 0 ∨ cl142.slots.size ≤ ((34 : Int32)).toNatClampNeg) := inb_of S142 ⟨by decide, by decide⟩
  obtain ⟨T142, h142, X142, e142, W142, st142⟩ := stR X140 hx hZ e140 Ar142 (j := (34 : Int32)) hin142 rfl (Sto.ofV Ar142 q142 O2 (Ins.self ((hE 34 (by decide)).ext (O0.keep K138 all0).2))) (g := (mkF m 243 #[iv p0, .unset, .unset, .unset] [(.ref (el 34)), (.int (34 : Int32)), (.ref b2), (.ref b2)])) rfl rfl (hb hby at_243)
  have V142 : Arv Z h142 b2 k2 (.object "com/example/quadvar/quadvar/model/VariantType") (39 : Int32) [(.ref (el 0)), (.ref (el 1)), (.ref (el 2)), (.ref (el 3)), (.ref (el 4)), (.ref (el 5)), (.ref (el 6)), (.ref (el 7)), (.ref (el 8)), (.ref (el 9)), (.ref (el 10)), (.ref (el 11)), (.ref (el 12)), (.ref (el 13)), (.ref (el 14)), (.ref (el 15)), (.ref (el 16)), (.ref (el 17)), (.ref (el 18)), (.ref (el 19)), (.ref (el 20)), (.ref (el 21)), (.ref (el 22)), (.ref (el 23)), (.ref (el 24)), (.ref (el 25)), (.ref (el 26)), (.ref (el 27)), (.ref (el 28)), (.ref (el 29)), (.ref (el 30)), (.ref (el 31)), (.ref (el 32)), (.ref (el 33)), (.ref (el 34)), .null, .null, .null, .null] .null := Arv.set Ar142 q142 S142 M142 H142 G142 rfl W142 34 rfl (Nat.le_of_ble_eq_true rfl)
  have K142 : Keep h0 h142 [] := K138.wr W142 (Or.inr sz_b2)
  have N142 := Fr.snoc X142 N138 g_b2
  have pre143 : ∀ t, Steps p.tables e below (T142.setTop (mkF m 247 #[iv p0, .unset, .unset, .unset] [(.int (35 : Int32)), (.ref b2), (.ref b2)])) t → Steps p.tables e below (s₁.setTop (entryFrame m #[(.int p0)] maxLocals)) t := by
    intro t kt
    refine pre141 _ ?_
    show Steps p.tables e below (T140.setTop (mkF m 243 #[iv p0, .unset, .unset, .unset] [(.ref (el 34)), (.int (34 : Int32)), (.ref b2), (.ref b2)])) _
    refine st142 _ ?_
    show Steps p.tables e below (T142.setTop (mkF m 244 #[iv p0, .unset, .unset, .unset] [(.ref b2)])) _
    refine XS.dup X142.here hx rfl (hb hby at_244) rfl rfl ?_
    show Steps p.tables e below (T142.setTop (mkF m 245 #[iv p0, .unset, .unset, .unset] [(.ref b2), (.ref b2)])) _
    refine XS.bipush X142.here hx rfl (hb hby at_245) ?_
    exact kt
  obtain ⟨T144, X144, e144, st144⟩ := getS2 X142 hx hZ hown (host := "") (Or.inl (hw _ (List.mem_of_getElem? (i := 74) rfl))) Via.refl e142 (S_PACKED_VECTOR2_ARRAY.ext (O0.keep K142 all0).2) (g := (mkF m 247 #[iv p0, .unset, .unset, .unset] [(.int (35 : Int32)), (.ref b2), (.ref b2)])) rfl (hb hby at_247)
  have pre145 : ∀ t, Steps p.tables e below (T144.setTop (mkF m 250 #[iv p0, .unset, .unset, .unset] [(.ref (el 35)), (.int (35 : Int32)), (.ref b2), (.ref b2)])) t → Steps p.tables e below (s₁.setTop (entryFrame m #[(.int p0)] maxLocals)) t := by
    intro t kt
    refine pre143 _ ?_
    show Steps p.tables e below (T142.setTop (mkF m 247 #[iv p0, .unset, .unset, .unset] [(.int (35 : Int32)), (.ref b2), (.ref b2)])) _
    refine st144 _ ?_
    exact kt
  obtain ⟨cl146, Ar146, q146, S146, M146, H146, G146⟩ := id V142
  have hin146 : ¬ ((35 : Int32) < 0 ∨ cl146.slots.size ≤ ((35 : Int32)).toNatClampNeg) := inb_of S146 ⟨by decide, by decide⟩
  obtain ⟨T146, h146, X146, e146, W146, st146⟩ := stR X144 hx hZ e144 Ar146 (j := (35 : Int32)) hin146 rfl (Sto.ofV Ar146 q146 O2 (Ins.self ((hE 35 (by decide)).ext (O0.keep K142 all0).2))) (g := (mkF m 250 #[iv p0, .unset, .unset, .unset] [(.ref (el 35)), (.int (35 : Int32)), (.ref b2), (.ref b2)])) rfl rfl (hb hby at_250)
  have V146 : Arv Z h146 b2 k2 (.object "com/example/quadvar/quadvar/model/VariantType") (39 : Int32) [(.ref (el 0)), (.ref (el 1)), (.ref (el 2)), (.ref (el 3)), (.ref (el 4)), (.ref (el 5)), (.ref (el 6)), (.ref (el 7)), (.ref (el 8)), (.ref (el 9)), (.ref (el 10)), (.ref (el 11)), (.ref (el 12)), (.ref (el 13)), (.ref (el 14)), (.ref (el 15)), (.ref (el 16)), (.ref (el 17)), (.ref (el 18)), (.ref (el 19)), (.ref (el 20)), (.ref (el 21)), (.ref (el 22)), (.ref (el 23)), (.ref (el 24)), (.ref (el 25)), (.ref (el 26)), (.ref (el 27)), (.ref (el 28)), (.ref (el 29)), (.ref (el 30)), (.ref (el 31)), (.ref (el 32)), (.ref (el 33)), (.ref (el 34)), (.ref (el 35)), .null, .null, .null] .null := Arv.set Ar146 q146 S146 M146 H146 G146 rfl W146 35 rfl (Nat.le_of_ble_eq_true rfl)
  have K146 : Keep h0 h146 [] := K142.wr W146 (Or.inr sz_b2)
  have N146 := Fr.snoc X146 N142 g_b2
  have pre147 : ∀ t, Steps p.tables e below (T146.setTop (mkF m 254 #[iv p0, .unset, .unset, .unset] [(.int (36 : Int32)), (.ref b2), (.ref b2)])) t → Steps p.tables e below (s₁.setTop (entryFrame m #[(.int p0)] maxLocals)) t := by
    intro t kt
    refine pre145 _ ?_
    show Steps p.tables e below (T144.setTop (mkF m 250 #[iv p0, .unset, .unset, .unset] [(.ref (el 35)), (.int (35 : Int32)), (.ref b2), (.ref b2)])) _
    refine st146 _ ?_
    show Steps p.tables e below (T146.setTop (mkF m 251 #[iv p0, .unset, .unset, .unset] [(.ref b2)])) _
    refine XS.dup X146.here hx rfl (hb hby at_251) rfl rfl ?_
    show Steps p.tables e below (T146.setTop (mkF m 252 #[iv p0, .unset, .unset, .unset] [(.ref b2), (.ref b2)])) _
    refine XS.bipush X146.here hx rfl (hb hby at_252) ?_
    exact kt
  obtain ⟨T148, X148, e148, st148⟩ := getS2 X146 hx hZ hown (host := "") (Or.inl (hw _ (List.mem_of_getElem? (i := 76) rfl))) Via.refl e146 (S_PACKED_VECTOR3_ARRAY.ext (O0.keep K146 all0).2) (g := (mkF m 254 #[iv p0, .unset, .unset, .unset] [(.int (36 : Int32)), (.ref b2), (.ref b2)])) rfl (hb hby at_254)
  have pre149 : ∀ t, Steps p.tables e below (T148.setTop (mkF m 257 #[iv p0, .unset, .unset, .unset] [(.ref (el 36)), (.int (36 : Int32)), (.ref b2), (.ref b2)])) t → Steps p.tables e below (s₁.setTop (entryFrame m #[(.int p0)] maxLocals)) t := by
    intro t kt
    refine pre147 _ ?_
    show Steps p.tables e below (T146.setTop (mkF m 254 #[iv p0, .unset, .unset, .unset] [(.int (36 : Int32)), (.ref b2), (.ref b2)])) _
    refine st148 _ ?_
    exact kt
  obtain ⟨cl150, Ar150, q150, S150, M150, H150, G150⟩ := id V146
  have hin150 : ¬ ((36 : Int32) < 0 ∨ cl150.slots.size ≤ ((36 : Int32)).toNatClampNeg) := inb_of S150 ⟨by decide, by decide⟩
  obtain ⟨T150, h150, X150, e150, W150, st150⟩ := stR X148 hx hZ e148 Ar150 (j := (36 : Int32)) hin150 rfl (Sto.ofV Ar150 q150 O2 (Ins.self ((hE 36 (by decide)).ext (O0.keep K146 all0).2))) (g := (mkF m 257 #[iv p0, .unset, .unset, .unset] [(.ref (el 36)), (.int (36 : Int32)), (.ref b2), (.ref b2)])) rfl rfl (hb hby at_257)
  have V150 : Arv Z h150 b2 k2 (.object "com/example/quadvar/quadvar/model/VariantType") (39 : Int32) [(.ref (el 0)), (.ref (el 1)), (.ref (el 2)), (.ref (el 3)), (.ref (el 4)), (.ref (el 5)), (.ref (el 6)), (.ref (el 7)), (.ref (el 8)), (.ref (el 9)), (.ref (el 10)), (.ref (el 11)), (.ref (el 12)), (.ref (el 13)), (.ref (el 14)), (.ref (el 15)), (.ref (el 16)), (.ref (el 17)), (.ref (el 18)), (.ref (el 19)), (.ref (el 20)), (.ref (el 21)), (.ref (el 22)), (.ref (el 23)), (.ref (el 24)), (.ref (el 25)), (.ref (el 26)), (.ref (el 27)), (.ref (el 28)), (.ref (el 29)), (.ref (el 30)), (.ref (el 31)), (.ref (el 32)), (.ref (el 33)), (.ref (el 34)), (.ref (el 35)), (.ref (el 36)), .null, .null] .null := Arv.set Ar150 q150 S150 M150 H150 G150 rfl W150 36 rfl (Nat.le_of_ble_eq_true rfl)
  have K150 : Keep h0 h150 [] := K146.wr W150 (Or.inr sz_b2)
  have N150 := Fr.snoc X150 N146 g_b2
  have pre151 : ∀ t, Steps p.tables e below (T150.setTop (mkF m 261 #[iv p0, .unset, .unset, .unset] [(.int (37 : Int32)), (.ref b2), (.ref b2)])) t → Steps p.tables e below (s₁.setTop (entryFrame m #[(.int p0)] maxLocals)) t := by
    intro t kt
    refine pre149 _ ?_
    show Steps p.tables e below (T148.setTop (mkF m 257 #[iv p0, .unset, .unset, .unset] [(.ref (el 36)), (.int (36 : Int32)), (.ref b2), (.ref b2)])) _
    refine st150 _ ?_
    show Steps p.tables e below (T150.setTop (mkF m 258 #[iv p0, .unset, .unset, .unset] [(.ref b2)])) _
    refine XS.dup X150.here hx rfl (hb hby at_258) rfl rfl ?_
    show Steps p.tables e below (T150.setTop (mkF m 259 #[iv p0, .unset, .unset, .unset] [(.ref b2), (.ref b2)])) _
    refine XS.bipush X150.here hx rfl (hb hby at_259) ?_
    exact kt
  obtain ⟨T152, X152, e152, st152⟩ := getS2 X150 hx hZ hown (host := "") (Or.inl (hw _ (List.mem_of_getElem? (i := 78) rfl))) Via.refl e150 (S_PACKED_COLOR_ARRAY.ext (O0.keep K150 all0).2) (g := (mkF m 261 #[iv p0, .unset, .unset, .unset] [(.int (37 : Int32)), (.ref b2), (.ref b2)])) rfl (hb hby at_261)
  have pre153 : ∀ t, Steps p.tables e below (T152.setTop (mkF m 264 #[iv p0, .unset, .unset, .unset] [(.ref (el 37)), (.int (37 : Int32)), (.ref b2), (.ref b2)])) t → Steps p.tables e below (s₁.setTop (entryFrame m #[(.int p0)] maxLocals)) t := by
    intro t kt
    refine pre151 _ ?_
    show Steps p.tables e below (T150.setTop (mkF m 261 #[iv p0, .unset, .unset, .unset] [(.int (37 : Int32)), (.ref b2), (.ref b2)])) _
    refine st152 _ ?_
    exact kt
  obtain ⟨cl154, Ar154, q154, S154, M154, H154, G154⟩ := id V150
  have hin154 : ¬ ((37 : Int32) < 0 ∨ cl154.slots.size ≤ ((37 : Int32)).toNatClampNeg) := inb_of S154 ⟨by decide, by decide⟩
  obtain ⟨T154, h154, X154, e154, W154, st154⟩ := stR X152 hx hZ e152 Ar154 (j := (37 : Int32)) hin154 rfl (Sto.ofV Ar154 q154 O2 (Ins.self ((hE 37 (by decide)).ext (O0.keep K150 all0).2))) (g := (mkF m 264 #[iv p0, .unset, .unset, .unset] [(.ref (el 37)), (.int (37 : Int32)), (.ref b2), (.ref b2)])) rfl rfl (hb hby at_264)
  have V154 : Arv Z h154 b2 k2 (.object "com/example/quadvar/quadvar/model/VariantType") (39 : Int32) [(.ref (el 0)), (.ref (el 1)), (.ref (el 2)), (.ref (el 3)), (.ref (el 4)), (.ref (el 5)), (.ref (el 6)), (.ref (el 7)), (.ref (el 8)), (.ref (el 9)), (.ref (el 10)), (.ref (el 11)), (.ref (el 12)), (.ref (el 13)), (.ref (el 14)), (.ref (el 15)), (.ref (el 16)), (.ref (el 17)), (.ref (el 18)), (.ref (el 19)), (.ref (el 20)), (.ref (el 21)), (.ref (el 22)), (.ref (el 23)), (.ref (el 24)), (.ref (el 25)), (.ref (el 26)), (.ref (el 27)), (.ref (el 28)), (.ref (el 29)), (.ref (el 30)), (.ref (el 31)), (.ref (el 32)), (.ref (el 33)), (.ref (el 34)), (.ref (el 35)), (.ref (el 36)), (.ref (el 37)), .null] .null := Arv.set Ar154 q154 S154 M154 H154 G154 rfl W154 37 rfl (Nat.le_of_ble_eq_true rfl)
  have K154 : Keep h0 h154 [] := K150.wr W154 (Or.inr sz_b2)
  have N154 := Fr.snoc X154 N150 g_b2
  have pre155 : ∀ t, Steps p.tables e below (T154.setTop (mkF m 268 #[iv p0, .unset, .unset, .unset] [(.int (38 : Int32)), (.ref b2), (.ref b2)])) t → Steps p.tables e below (s₁.setTop (entryFrame m #[(.int p0)] maxLocals)) t := by
    intro t kt
    refine pre153 _ ?_
    show Steps p.tables e below (T152.setTop (mkF m 264 #[iv p0, .unset, .unset, .unset] [(.ref (el 37)), (.int (37 : Int32)), (.ref b2), (.ref b2)])) _
    refine st154 _ ?_
    show Steps p.tables e below (T154.setTop (mkF m 265 #[iv p0, .unset, .unset, .unset] [(.ref b2)])) _
    refine XS.dup X154.here hx rfl (hb hby at_265) rfl rfl ?_
    show Steps p.tables e below (T154.setTop (mkF m 266 #[iv p0, .unset, .unset, .unset] [(.ref b2), (.ref b2)])) _
    refine XS.bipush X154.here hx rfl (hb hby at_266) ?_
    exact kt
  obtain ⟨T156, X156, e156, st156⟩ := getS2 X154 hx hZ hown (host := "") (Or.inl (hw _ (List.mem_of_getElem? (i := 80) rfl))) Via.refl e154 (S_PACKED_VECTOR4_ARRAY.ext (O0.keep K154 all0).2) (g := (mkF m 268 #[iv p0, .unset, .unset, .unset] [(.int (38 : Int32)), (.ref b2), (.ref b2)])) rfl (hb hby at_268)
  have pre157 : ∀ t, Steps p.tables e below (T156.setTop (mkF m 271 #[iv p0, .unset, .unset, .unset] [(.ref (el 38)), (.int (38 : Int32)), (.ref b2), (.ref b2)])) t → Steps p.tables e below (s₁.setTop (entryFrame m #[(.int p0)] maxLocals)) t := by
    intro t kt
    refine pre155 _ ?_
    show Steps p.tables e below (T154.setTop (mkF m 268 #[iv p0, .unset, .unset, .unset] [(.int (38 : Int32)), (.ref b2), (.ref b2)])) _
    refine st156 _ ?_
    exact kt
  obtain ⟨cl158, Ar158, q158, S158, M158, H158, G158⟩ := id V154
  have hin158 : ¬ ((38 : Int32) < 0 ∨ cl158.slots.size ≤ ((38 : Int32)).toNatClampNeg) := inb_of S158 ⟨by decide, by decide⟩
  obtain ⟨T158, h158, X158, e158, W158, st158⟩ := stR X156 hx hZ e156 Ar158 (j := (38 : Int32)) hin158 rfl (Sto.ofV Ar158 q158 O2 (Ins.self ((hE 38 (by decide)).ext (O0.keep K154 all0).2))) (g := (mkF m 271 #[iv p0, .unset, .unset, .unset] [(.ref (el 38)), (.int (38 : Int32)), (.ref b2), (.ref b2)])) rfl rfl (hb hby at_271)
  have V158 : Arv Z h158 b2 k2 (.object "com/example/quadvar/quadvar/model/VariantType") (39 : Int32) [(.ref (el 0)), (.ref (el 1)), (.ref (el 2)), (.ref (el 3)), (.ref (el 4)), (.ref (el 5)), (.ref (el 6)), (.ref (el 7)), (.ref (el 8)), (.ref (el 9)), (.ref (el 10)), (.ref (el 11)), (.ref (el 12)), (.ref (el 13)), (.ref (el 14)), (.ref (el 15)), (.ref (el 16)), (.ref (el 17)), (.ref (el 18)), (.ref (el 19)), (.ref (el 20)), (.ref (el 21)), (.ref (el 22)), (.ref (el 23)), (.ref (el 24)), (.ref (el 25)), (.ref (el 26)), (.ref (el 27)), (.ref (el 28)), (.ref (el 29)), (.ref (el 30)), (.ref (el 31)), (.ref (el 32)), (.ref (el 33)), (.ref (el 34)), (.ref (el 35)), (.ref (el 36)), (.ref (el 37)), (.ref (el 38))] .null := Arv.set Ar158 q158 S158 M158 H158 G158 rfl W158 38 rfl (Nat.le_of_ble_eq_true rfl)
  have K158 : Keep h0 h158 [] := K154.wr W158 (Or.inr sz_b2)
  have N158 := Fr.snoc X158 N154 g_b2
  obtain ⟨i, h_i⟩ : ∃ z : Int32, z = ((p0 &&& (2147483647 : Int32)) % (39 : Int32)) := ⟨_, rfl⟩
  have pre159 : ∀ t, Steps p.tables e below (T158.setTop (mkF m 281 #[iv p0, rv b2, iv i, .unset] [])) t → Steps p.tables e below (s₁.setTop (entryFrame m #[(.int p0)] maxLocals)) t := by
    intro t kt
    refine pre157 _ ?_
    show Steps p.tables e below (T156.setTop (mkF m 271 #[iv p0, .unset, .unset, .unset] [(.ref (el 38)), (.int (38 : Int32)), (.ref b2), (.ref b2)])) _
    refine st158 _ ?_
    show Steps p.tables e below (T158.setTop (mkF m 272 #[iv p0, .unset, .unset, .unset] [(.ref b2)])) _
    refine XS.astoreN X158.here hx rfl (hb hby at_272) rfl rfl (l' := #[iv p0, rv b2, .unset, .unset]) rfl ?_
    show Steps p.tables e below (T158.setTop (mkF m 273 #[iv p0, rv b2, .unset, .unset] [])) _
    refine XS.iloadN X158.here hx rfl (hb hby at_273) rfl ?_
    show Steps p.tables e below (T158.setTop (mkF m 274 #[iv p0, rv b2, .unset, .unset] [(.int p0)])) _
    refine X158.ldcInt hx hown (mvT hZ (hw _ (List.mem_of_getElem? (i := 82) rfl))) (g := (mkF m 274 #[iv p0, rv b2, .unset, .unset] [(.int p0)])) rfl (hb hby at_274) _ ?_
    show Steps p.tables e below (T158.setTop (mkF m 276 #[iv p0, rv b2, .unset, .unset] [(.int (2147483647 : Int32)), (.int p0)])) _
    refine XS.iand X158.here hx rfl (hb hby at_276) rfl ?_
    show Steps p.tables e below (T158.setTop (mkF m 277 #[iv p0, rv b2, .unset, .unset] [(.int (p0 &&& (2147483647 : Int32)))])) _
    refine XS.bipush X158.here hx rfl (hb hby at_277) ?_
    show Steps p.tables e below (T158.setTop (mkF m 279 #[iv p0, rv b2, .unset, .unset] [(.int (39 : Int32)), (.int (p0 &&& (2147483647 : Int32)))])) _
    refine iremM X158 hx rfl (hb hby at_279) rfl (by decide) ?_
    show Steps p.tables e below (T158.setTop (mkF m 280 #[iv p0, rv b2, .unset, .unset] [(.int ((p0 &&& (2147483647 : Int32)) % (39 : Int32)))])) _
    refine XS.istoreN X158.here hx rfl (hb hby at_280) rfl (l' := #[iv p0, rv b2, iv ((p0 &&& (2147483647 : Int32)) % (39 : Int32)), .unset]) rfl ?_
    show Steps p.tables e below (T158.setTop (mkF m 281 #[iv p0, rv b2, iv ((p0 &&& (2147483647 : Int32)) % (39 : Int32)), .unset] [])) _
    rw [← h_i]
    exact kt
  obtain ⟨Lf160, Xf160, Nf160⟩ : ∃ Ls : List Loc, Stand p l e room_1 s m #[(.int p0)] below meth c T158 Ls 1 39 ∧ Fr n0 Ls := ⟨_, X158, N158⟩
  have hi38 : 0 ≤ i.toInt ∧ i.toInt ≤ 38 := by rw [h_i]; exact own_rem p0
  have hix := own_idx hi38
  obtain ⟨exp, hexp, pre167⟩ : ∃ (exp : Int32), (((i = (27 : Int32)) ∧ exp = (1 : Int32)) ∨ ((¬ (i = (27 : Int32))) ∧ (i = (28 : Int32)) ∧ exp = (1 : Int32)) ∨ ((¬ (i = (27 : Int32))) ∧ (¬ (i = (28 : Int32))) ∧ exp = (0 : Int32))) ∧ ∀ t, Steps p.tables e below (T158.setTop (mkF m 298 #[iv p0, rv b2, iv i, .unset] [(.int exp)])) t → Steps p.tables e below (s₁.setTop (entryFrame m #[(.int p0)] maxLocals)) t := by
    have pre161 : ∀ t, Steps p.tables e below (T158.setTop (mkF m 284 #[iv p0, rv b2, iv i, .unset] [(.int (27 : Int32)), (.int i)])) t → Steps p.tables e below (s₁.setTop (entryFrame m #[(.int p0)] maxLocals)) t := by
      intro t kt
      refine pre159 _ ?_
      show Steps p.tables e below (T158.setTop (mkF m 281 #[iv p0, rv b2, iv i, .unset] [])) _
      refine XS.iloadN Xf160.here hx rfl (hb hby at_281) rfl ?_
      show Steps p.tables e below (T158.setTop (mkF m 282 #[iv p0, rv b2, iv i, .unset] [(.int i)])) _
      refine XS.bipush Xf160.here hx rfl (hb hby at_282) ?_
      exact kt
    by_cases hc284 : i = (27 : Int32)
    · have pre162 : ∀ t, Steps p.tables e below (T158.setTop (mkF m 298 #[iv p0, rv b2, iv i, .unset] [(.int (1 : Int32))])) t → Steps p.tables e below (s₁.setTop (entryFrame m #[(.int p0)] maxLocals)) t := by
        intro t kt
        refine pre161 _ ?_
        show Steps p.tables e below (T158.setTop (mkF m 284 #[iv p0, rv b2, iv i, .unset] [(.int (27 : Int32)), (.int i)])) _
        refine XS.icmpYes Xf160.here hx rfl (pc0 := 284) (pc' := 293) rfl (hb hby at_284) rfl (teq hc284).1 (by decide) (by decide) ?_
        show Steps p.tables e below (T158.setTop (mkF m 293 #[iv p0, rv b2, iv i, .unset] [])) _
        refine XS.iconst Xf160.here hx rfl (hb hby at_293) ?_
        show Steps p.tables e below (T158.setTop (mkF m 294 #[iv p0, rv b2, iv i, .unset] [(.int (1 : Int32))])) _
        refine XS.goto Xf160.here hx rfl (pc0 := 294) (pc' := 298) rfl (hb hby at_294) (by decide) (by decide) ?_
        exact kt
      exact ⟨(1 : Int32), Or.inl ⟨hc284, rfl⟩, pre162⟩
    · have pre163 : ∀ t, Steps p.tables e below (T158.setTop (mkF m 290 #[iv p0, rv b2, iv i, .unset] [(.int (28 : Int32)), (.int i)])) t → Steps p.tables e below (s₁.setTop (entryFrame m #[(.int p0)] maxLocals)) t := by
        intro t kt
        refine pre161 _ ?_
        show Steps p.tables e below (T158.setTop (mkF m 284 #[iv p0, rv b2, iv i, .unset] [(.int (27 : Int32)), (.int i)])) _
        refine XS.icmpNo Xf160.here hx rfl (hb hby at_284) rfl (feq hc284).1 ?_
        show Steps p.tables e below (T158.setTop (mkF m 287 #[iv p0, rv b2, iv i, .unset] [])) _
        refine XS.iloadN Xf160.here hx rfl (hb hby at_287) rfl ?_
        show Steps p.tables e below (T158.setTop (mkF m 288 #[iv p0, rv b2, iv i, .unset] [(.int i)])) _
        refine XS.bipush Xf160.here hx rfl (hb hby at_288) ?_
        exact kt
      by_cases hc290 : i = (28 : Int32)
      · have pre164 : ∀ t, Steps p.tables e below (T158.setTop (mkF m 298 #[iv p0, rv b2, iv i, .unset] [(.int (1 : Int32))])) t → Steps p.tables e below (s₁.setTop (entryFrame m #[(.int p0)] maxLocals)) t := by
          intro t kt
          refine pre163 _ ?_
          show Steps p.tables e below (T158.setTop (mkF m 290 #[iv p0, rv b2, iv i, .unset] [(.int (28 : Int32)), (.int i)])) _
          refine XS.icmpNo Xf160.here hx rfl (hb hby at_290) rfl (teq hc290).2 ?_
          show Steps p.tables e below (T158.setTop (mkF m 293 #[iv p0, rv b2, iv i, .unset] [])) _
          refine XS.iconst Xf160.here hx rfl (hb hby at_293) ?_
          show Steps p.tables e below (T158.setTop (mkF m 294 #[iv p0, rv b2, iv i, .unset] [(.int (1 : Int32))])) _
          refine XS.goto Xf160.here hx rfl (pc0 := 294) (pc' := 298) rfl (hb hby at_294) (by decide) (by decide) ?_
          exact kt
        exact ⟨(1 : Int32), Or.inr (Or.inl ⟨hc284, hc290, rfl⟩), pre164⟩
      · have pre165 : ∀ t, Steps p.tables e below (T158.setTop (mkF m 298 #[iv p0, rv b2, iv i, .unset] [(.int (0 : Int32))])) t → Steps p.tables e below (s₁.setTop (entryFrame m #[(.int p0)] maxLocals)) t := by
          intro t kt
          refine pre163 _ ?_
          show Steps p.tables e below (T158.setTop (mkF m 290 #[iv p0, rv b2, iv i, .unset] [(.int (28 : Int32)), (.int i)])) _
          refine XS.icmpYes Xf160.here hx rfl (pc0 := 290) (pc' := 297) rfl (hb hby at_290) rfl (feq hc290).2 (by decide) (by decide) ?_
          show Steps p.tables e below (T158.setTop (mkF m 297 #[iv p0, rv b2, iv i, .unset] [])) _
          refine XS.iconst Xf160.here hx rfl (hb hby at_297) ?_
          exact kt
        exact ⟨(0 : Int32), Or.inr (Or.inr (⟨hc284, hc290, rfl⟩)), pre165⟩
  obtain ⟨cl168, Ar168, q168, S168, M168, H168, G168⟩ := id V158
  have hin168 : ¬ (i < 0 ∨ cl168.slots.size ≤ (i).toNatClampNeg) := inb_of S168 ⟨hix.1, hix.2.1⟩
  have hat168 : cl168.slots[(i).toNatClampNeg]? = some (.ref (el (i.toNatClampNeg))) := H168.at hin168 (own_get el _ hix.2.2)
  have pre169 : ∀ t, Steps p.tables e below (T158.setTop (mkF m 302 #[iv p0, rv b2, iv i, iv exp] [(.ref (el (i.toNatClampNeg)))])) t → Steps p.tables e below (s₁.setTop (entryFrame m #[(.int p0)] maxLocals)) t := by
    intro t kt
    refine pre167 _ ?_
    show Steps p.tables e below (T158.setTop (mkF m 298 #[iv p0, rv b2, iv i, .unset] [(.int exp)])) _
    refine XS.istoreN Xf160.here hx rfl (hb hby at_298) rfl (l' := #[iv p0, rv b2, iv i, iv exp]) rfl ?_
    show Steps p.tables e below (T158.setTop (mkF m 299 #[iv p0, rv b2, iv i, iv exp] [])) _
    refine XS.aloadN Xf160.here hx rfl (hb hby at_299) rfl rfl ?_
    show Steps p.tables e below (T158.setTop (mkF m 300 #[iv p0, rv b2, iv i, iv exp] [(.ref b2)])) _
    refine XS.iloadN Xf160.here hx rfl (hb hby at_300) rfl ?_
    show Steps p.tables e below (T158.setTop (mkF m 301 #[iv p0, rv b2, iv i, iv exp] [(.int i), (.ref b2)])) _
    refine Xf160.aaload hx (j := i) (v := (.ref (el (i.toNatClampNeg)))) (by rw [e158]; exact Ar168.1) (State.isArrayOf_alike hZ.alike Ar168.2.1) rfl Ar168.2.2 hin168 hat168 (g := (mkF m 301 #[iv p0, rv b2, iv i, iv exp] [(.int i), (.ref b2)])) rfl rfl (hb hby at_301) _ ?_
    exact kt
  obtain ⟨cq170, kq170, q170a, q170b, q170c⟩ := isOf hZ e158 ((hE _ hix.2.2).ext (O0.keep K158 all0).2)
  obtain ⟨_, _, ⟨T170, L170, k170, n170⟩, -, X170, ⟨Lc170, hQ170, l170, y170, z170⟩, st170⟩ := Xf160.virtualBack hx (y := (⟨"com/example/quadvar/quadvar/model/VariantType", "isContainer", "()Z"⟩ : MethodName)) (z := (⟨"com/example/quadvar/quadvar/model/VariantType", "isContainer", "()Z"⟩ : MethodName)) hown (mvT hZ (hw _ (List.mem_of_getElem? (i := 83) rfl))) (mvT hZ (hw _ (List.mem_of_getElem? (i := 84) rfl))) (notFace_of_selects (args := #[]) (mvT hZ (hw _ (List.mem_of_getElem? (i := 86) rfl)))) (mvT hZ (hw _ (List.mem_of_getElem? (i := 86) rfl))) (mvT hZ (hw _ (List.mem_of_getElem? (i := 85) rfl))) (by decide) (backOf (W := 0) (rm1 l Z a0 hw [] (el (i.toNatClampNeg)) (el 28) (el 27) h158 n0 (Nat.le_trans Z0 K158.1) (O0.keep K158 all0) S_ARRAY S_DICTIONARY) hZ (hw _ (List.mem_of_getElem? (i := 87) rfl)) (hw _ (List.mem_of_getElem? (i := 3) rfl)) (by decide) (by decide)) q170a q170c (g := (mkF m 302 #[iv p0, rv b2, iv i, iv exp] [(.ref (el (i.toNatClampNeg)))])) rfl (by rw [hml]; rfl) (Steps.refl _) (argsL := []) (rest := []) (lenOf pd2 rfl) rfl (by show 2 * 0 + _ ≤ _; exact Nat.le_of_eq rfl) (hb hby at_302) (fun _ _ => ⟨rfl, e158, (by decide : 1 + 0 ≤ _), (by decide : 39 + 0 ≤ _)⟩)
  dsimp only [Pt.U, Pt.locs, Pt.cells, Pt.slots] at X170 l170 y170 z170 st170 hQ170
  subst l170 y170 z170
  obtain ⟨rfl, N170q, hh170⟩ := hQ170
  have N170 := Fr.app Nf160 N170q
  have pre171 : ∀ t, Steps p.tables e below (T170.setTop (mkF m 306 #[iv p0, rv b2, iv i, iv exp] [(.int exp), (.int (own_ic (el 28) (el 27) (el (i.toNatClampNeg))))])) t → Steps p.tables e below (s₁.setTop (entryFrame m #[(.int p0)] maxLocals)) t := by
    intro t kt
    refine pre169 _ ?_
    show Steps p.tables e below (T158.setTop (mkF m 302 #[iv p0, rv b2, iv i, iv exp] [(.ref (el (i.toNatClampNeg)))])) _
    refine st170.trans ?_
    show Steps p.tables e below (T170.setTop (mkF m 305 #[iv p0, rv b2, iv i, iv exp] [(.int (own_ic (el 28) (el 27) (el (i.toNatClampNeg))))])) _
    refine XS.iloadN X170.here hx rfl (hb hby at_305) rfl ?_
    exact kt
  by_cases hc306 : (own_ic (el 28) (el 27) (el (i.toNatClampNeg))) = exp
  · have pre172 : ∀ t, Steps p.tables e below (T170.setTop (mkF m 314 #[iv p0, rv b2, iv i, iv exp] [(.int (1 : Int32))])) t → Steps p.tables e below (s₁.setTop (entryFrame m #[(.int p0)] maxLocals)) t := by
      intro t kt
      refine pre171 _ ?_
      show Steps p.tables e below (T170.setTop (mkF m 306 #[iv p0, rv b2, iv i, iv exp] [(.int exp), (.int (own_ic (el 28) (el 27) (el (i.toNatClampNeg))))])) _
      refine XS.icmpNo X170.here hx rfl (hb hby at_306) rfl (teq hc306).2 ?_
      show Steps p.tables e below (T170.setTop (mkF m 309 #[iv p0, rv b2, iv i, iv exp] [])) _
      refine XS.iconst X170.here hx rfl (hb hby at_309) ?_
      show Steps p.tables e below (T170.setTop (mkF m 310 #[iv p0, rv b2, iv i, iv exp] [(.int (1 : Int32))])) _
      refine XS.goto X170.here hx rfl (pc0 := 310) (pc' := 314) rfl (hb hby at_310) (by decide) (by decide) ?_
      exact kt
    obtain ⟨fs, hr, hrun, hended, hW, hsame⟩ := X170.leave (v := some (.int (1 : Int32))) (fun h => by rw [Bd.returns] at h; cases h)
    refine ⟨_, _, pre172 _ ?_, hrun, hended, _, _, rfl, ?_, ⟨_, rfl⟩, hW, hsame.mono (by decide) (by decide)⟩
    · show Steps p.tables e below (T170.setTop (mkF m 314 #[iv p0, rv b2, iv i, iv exp] [(.int (1 : Int32))])) _
      exact retN X170 hx (t := .boolean) Bd.returns (by simp) (hb hby at_314) hr
    · show Q0 Z p0 el h0 n0 _ T170.heap _
      rw [hh170]
      exact ⟨rfl, N170⟩
  · have pre173 : ∀ t, Steps p.tables e below (T170.setTop (mkF m 314 #[iv p0, rv b2, iv i, iv exp] [(.int (0 : Int32))])) t → Steps p.tables e below (s₁.setTop (entryFrame m #[(.int p0)] maxLocals)) t := by
      intro t kt
      refine pre171 _ ?_
      show Steps p.tables e below (T170.setTop (mkF m 306 #[iv p0, rv b2, iv i, iv exp] [(.int exp), (.int (own_ic (el 28) (el 27) (el (i.toNatClampNeg))))])) _
      refine XS.icmpYes X170.here hx rfl (pc0 := 306) (pc' := 313) rfl (hb hby at_306) rfl (feq hc306).2 (by decide) (by decide) ?_
      show Steps p.tables e below (T170.setTop (mkF m 313 #[iv p0, rv b2, iv i, iv exp] [])) _
      refine XS.iconst X170.here hx rfl (hb hby at_313) ?_
      exact kt
    exfalso
    exact hc306 (own_law el hinj i exp hi38 hexp)
set_option maxRecDepth 65536 in
set_option maxHeartbeats 40000000 in
theorem comes_1 {Post : Tables → Env → Array Value → State → Outcome → State → Prop} (hpost : ∀ tb e args s v u, (limb_1_1.after args s (.returned v) u = true ∧ limb_1_2.after args s (.returned v) u = true ∧ True) → FrameEnd s (.returned v) u (Jvm.fieldLocs frame_1_writes args s ++ Jvm.arrayLocs frame_1_arrays args s ++ Jvm.staticLocs frame_1_statics s) 16 192 → Post tb e args s (.returned v) u) :
    ArmFor flags0 classFile x code maxLocals ret World_1 tables_1 room_1 Calls_1 rest_1 Pre_1 Post := by
  intro l hfl _ _ p e ha hc hk s m args below hf hA hF happ hP
  obtain ⟨hcalls, hrest, hpre⟩ := hP
  obtain ⟨-, -, -, hnamed, -, -, -, hat⟩ := (Spec.applies_iff hf).mp happ
  obtain ⟨hg, hn⟩ := and_e (Cond.before_iff.mp (show (Jvm.Cond.and given_1 narrow_1).before args s = true from hpre))
  obtain ⟨gg1, gg2⟩ := and_e hg
  obtain ⟨w0, rfl⟩ : ∃ w0 : Value, args = #[w0] := by
    have hs : args.size = 1 := by simpa [Cond.value, given_1] using gg1
    obtain ⟨L⟩ := args
    match L, hs with
    | [w0], _ => exact ⟨w0, rfl⟩
  have hw := fun d (hd : d ∈ tables_1) => atoms_spec (ws := Jvm.Cond.code x code maxLocals ret :: tables_1) hat d (List.mem_cons_of_mem _ hd)
  have hfit : Fit s := fun {y c} hc i hi => by
    obtain ⟨ha, rfl⟩ := Array.getElem?_eq_some_iff.mp hc
    have q := List.all_eq_true.mp ((Array.all_eq_true_iff_forall_mem.mp hF) _ (Array.getElem_mem ha)) i (List.mem_range.mpr hi)
    simpa [Array.getElem?_eq_getElem hi] using q
  obtain ⟨i0, ei0⟩ := is_v gg2
  obtain rfl : w0 = (.int i0) := Option.some.inj ei0
  obtain ⟨gg3, gg4⟩ := and_e hn
  obtain ⟨gg5, gg6⟩ := and_e gg4
  obtain ⟨gg7, gg8⟩ := and_e gg6
  obtain ⟨gg9, gg10⟩ := and_e gg8
  obtain ⟨gg11, gg12⟩ := and_e gg10
  obtain ⟨gg13, gg14⟩ := and_e gg12
  obtain ⟨gg15, gg16⟩ := and_e gg14
  obtain ⟨gg17, gg18⟩ := and_e gg16
  obtain ⟨gg19, gg20⟩ := and_e gg18
  obtain ⟨gg21, gg22⟩ := and_e gg20
  obtain ⟨gg23, gg24⟩ := and_e gg22
  obtain ⟨gg25, gg26⟩ := and_e gg24
  obtain ⟨gg27, gg28⟩ := and_e gg26
  obtain ⟨gg29, gg30⟩ := and_e gg28
  obtain ⟨gg31, gg32⟩ := and_e gg30
  obtain ⟨gg33, gg34⟩ := and_e gg32
  obtain ⟨gg35, gg36⟩ := and_e gg34
  obtain ⟨gg37, gg38⟩ := and_e gg36
  obtain ⟨gg39, gg40⟩ := and_e gg38
  obtain ⟨gg41, gg42⟩ := and_e gg40
  obtain ⟨gg43, gg44⟩ := and_e gg42
  obtain ⟨gg45, gg46⟩ := and_e gg44
  obtain ⟨gg47, gg48⟩ := and_e gg46
  obtain ⟨gg49, gg50⟩ := and_e gg48
  obtain ⟨gg51, gg52⟩ := and_e gg50
  obtain ⟨gg53, gg54⟩ := and_e gg52
  obtain ⟨gg55, gg56⟩ := and_e gg54
  obtain ⟨gg57, gg58⟩ := and_e gg56
  obtain ⟨gg59, gg60⟩ := and_e gg58
  obtain ⟨gg61, gg62⟩ := and_e gg60
  obtain ⟨gg63, gg64⟩ := and_e gg62
  obtain ⟨gg65, gg66⟩ := and_e gg64
  obtain ⟨gg67, gg68⟩ := and_e gg66
  obtain ⟨gg69, gg70⟩ := and_e gg68
  obtain ⟨gg71, gg72⟩ := and_e gg70
  obtain ⟨gg73, gg74⟩ := and_e gg72
  obtain ⟨gg75, gg76⟩ := and_e gg74
  obtain ⟨gg77, gg78⟩ := and_e gg76
  obtain ⟨gg79, gg80⟩ := and_e gg78
  obtain ⟨gg81, gg82⟩ := and_e gg80
  obtain ⟨gg83, gg84⟩ := and_e gg82
  obtain ⟨gg85, gg86⟩ := and_e gg84
  obtain ⟨gg87, gg88⟩ := and_e gg86
  obtain ⟨gg89, gg90⟩ := and_e gg88
  obtain ⟨gg91, gg92⟩ := and_e gg90
  obtain ⟨gg93, gg94⟩ := and_e gg92
  obtain ⟨gg95, gg96⟩ := and_e gg94
  obtain ⟨gg97, gg98⟩ := and_e gg96
  obtain ⟨gg99, gg100⟩ := and_e gg98
  obtain ⟨gg101, gg102⟩ := and_e gg100
  obtain ⟨gg103, gg104⟩ := and_e gg102
  obtain ⟨gg105, gg106⟩ := and_e gg104
  obtain ⟨gg107, gg108⟩ := and_e gg106
  obtain ⟨gg109, gg110⟩ := and_e gg108
  obtain ⟨gg111, gg112⟩ := and_e gg110
  obtain ⟨gg113, gg114⟩ := and_e gg112
  obtain ⟨gg115, gg116⟩ := and_e gg114
  obtain ⟨gg117, gg118⟩ := and_e gg116
  obtain ⟨gg119, gg120⟩ := and_e gg118
  obtain ⟨gg121, gg122⟩ := and_e gg120
  obtain ⟨gg123, gg124⟩ := and_e gg122
  obtain ⟨gg125, gg126⟩ := and_e gg124
  obtain ⟨gg127, gg128⟩ := and_e gg126
  obtain ⟨gg129, gg130⟩ := and_e gg128
  obtain ⟨gg131, gg132⟩ := and_e gg130
  obtain ⟨gg133, gg134⟩ := and_e gg132
  obtain ⟨gg135, gg136⟩ := and_e gg134
  obtain ⟨gg137, gg138⟩ := and_e gg136
  obtain ⟨gg139, gg140⟩ := and_e gg138
  obtain ⟨gg141, gg142⟩ := and_e gg140
  obtain ⟨gg143, gg144⟩ := and_e gg142
  obtain ⟨gg145, gg146⟩ := and_e gg144
  obtain ⟨gg147, gg148⟩ := and_e gg146
  obtain ⟨gg149, gg150⟩ := and_e gg148
  obtain ⟨gg151, gg152⟩ := and_e gg150
  obtain ⟨gg153, gg154⟩ := and_e gg152
  obtain ⟨gg155, gg156⟩ := and_e gg154
  obtain ⟨s_NIL, ev_NIL⟩ := exa_v gg3
  have St_NIL := Sta.start ev_NIL (Or.inr ⟨(hw _ (List.mem_of_getElem? (i := 3) rfl)), (hw _ (List.mem_of_getElem? (i := 4) rfl))⟩)
  have Ex_NIL := Exa.start ev_NIL gg3
  obtain ⟨s_BOOL, ev_BOOL⟩ := exa_v gg5
  have St_BOOL := Sta.start ev_BOOL (Or.inr ⟨(hw _ (List.mem_of_getElem? (i := 3) rfl)), (hw _ (List.mem_of_getElem? (i := 7) rfl))⟩)
  have Ex_BOOL := Exa.start ev_BOOL gg5
  obtain ⟨s_INT, ev_INT⟩ := exa_v gg7
  have St_INT := Sta.start ev_INT (Or.inr ⟨(hw _ (List.mem_of_getElem? (i := 3) rfl)), (hw _ (List.mem_of_getElem? (i := 9) rfl))⟩)
  have Ex_INT := Exa.start ev_INT gg7
  obtain ⟨s_FLOAT, ev_FLOAT⟩ := exa_v gg9
  have St_FLOAT := Sta.start ev_FLOAT (Or.inr ⟨(hw _ (List.mem_of_getElem? (i := 3) rfl)), (hw _ (List.mem_of_getElem? (i := 11) rfl))⟩)
  have Ex_FLOAT := Exa.start ev_FLOAT gg9
  obtain ⟨s_STRING, ev_STRING⟩ := exa_v gg11
  have St_STRING := Sta.start ev_STRING (Or.inr ⟨(hw _ (List.mem_of_getElem? (i := 3) rfl)), (hw _ (List.mem_of_getElem? (i := 13) rfl))⟩)
  have Ex_STRING := Exa.start ev_STRING gg11
  obtain ⟨s_VECTOR2, ev_VECTOR2⟩ := exa_v gg13
  have St_VECTOR2 := Sta.start ev_VECTOR2 (Or.inr ⟨(hw _ (List.mem_of_getElem? (i := 3) rfl)), (hw _ (List.mem_of_getElem? (i := 15) rfl))⟩)
  have Ex_VECTOR2 := Exa.start ev_VECTOR2 gg13
  obtain ⟨s_VECTOR2I, ev_VECTOR2I⟩ := exa_v gg15
  have St_VECTOR2I := Sta.start ev_VECTOR2I (Or.inr ⟨(hw _ (List.mem_of_getElem? (i := 3) rfl)), (hw _ (List.mem_of_getElem? (i := 17) rfl))⟩)
  have Ex_VECTOR2I := Exa.start ev_VECTOR2I gg15
  obtain ⟨s_RECT2, ev_RECT2⟩ := exa_v gg17
  have St_RECT2 := Sta.start ev_RECT2 (Or.inr ⟨(hw _ (List.mem_of_getElem? (i := 3) rfl)), (hw _ (List.mem_of_getElem? (i := 19) rfl))⟩)
  have Ex_RECT2 := Exa.start ev_RECT2 gg17
  obtain ⟨s_RECT2I, ev_RECT2I⟩ := exa_v gg19
  have St_RECT2I := Sta.start ev_RECT2I (Or.inr ⟨(hw _ (List.mem_of_getElem? (i := 3) rfl)), (hw _ (List.mem_of_getElem? (i := 21) rfl))⟩)
  have Ex_RECT2I := Exa.start ev_RECT2I gg19
  obtain ⟨s_VECTOR3, ev_VECTOR3⟩ := exa_v gg21
  have St_VECTOR3 := Sta.start ev_VECTOR3 (Or.inr ⟨(hw _ (List.mem_of_getElem? (i := 3) rfl)), (hw _ (List.mem_of_getElem? (i := 23) rfl))⟩)
  have Ex_VECTOR3 := Exa.start ev_VECTOR3 gg21
  obtain ⟨s_VECTOR3I, ev_VECTOR3I⟩ := exa_v gg23
  have St_VECTOR3I := Sta.start ev_VECTOR3I (Or.inr ⟨(hw _ (List.mem_of_getElem? (i := 3) rfl)), (hw _ (List.mem_of_getElem? (i := 25) rfl))⟩)
  have Ex_VECTOR3I := Exa.start ev_VECTOR3I gg23
  obtain ⟨s_TRANSFORM2D, ev_TRANSFORM2D⟩ := exa_v gg25
  have St_TRANSFORM2D := Sta.start ev_TRANSFORM2D (Or.inr ⟨(hw _ (List.mem_of_getElem? (i := 3) rfl)), (hw _ (List.mem_of_getElem? (i := 27) rfl))⟩)
  have Ex_TRANSFORM2D := Exa.start ev_TRANSFORM2D gg25
  obtain ⟨s_VECTOR4, ev_VECTOR4⟩ := exa_v gg27
  have St_VECTOR4 := Sta.start ev_VECTOR4 (Or.inr ⟨(hw _ (List.mem_of_getElem? (i := 3) rfl)), (hw _ (List.mem_of_getElem? (i := 29) rfl))⟩)
  have Ex_VECTOR4 := Exa.start ev_VECTOR4 gg27
  obtain ⟨s_VECTOR4I, ev_VECTOR4I⟩ := exa_v gg29
  have St_VECTOR4I := Sta.start ev_VECTOR4I (Or.inr ⟨(hw _ (List.mem_of_getElem? (i := 3) rfl)), (hw _ (List.mem_of_getElem? (i := 31) rfl))⟩)
  have Ex_VECTOR4I := Exa.start ev_VECTOR4I gg29
  obtain ⟨s_PLANE, ev_PLANE⟩ := exa_v gg31
  have St_PLANE := Sta.start ev_PLANE (Or.inr ⟨(hw _ (List.mem_of_getElem? (i := 3) rfl)), (hw _ (List.mem_of_getElem? (i := 33) rfl))⟩)
  have Ex_PLANE := Exa.start ev_PLANE gg31
  obtain ⟨s_QUATERNION, ev_QUATERNION⟩ := exa_v gg33
  have St_QUATERNION := Sta.start ev_QUATERNION (Or.inr ⟨(hw _ (List.mem_of_getElem? (i := 3) rfl)), (hw _ (List.mem_of_getElem? (i := 35) rfl))⟩)
  have Ex_QUATERNION := Exa.start ev_QUATERNION gg33
  obtain ⟨s_AABB, ev_AABB⟩ := exa_v gg35
  have St_AABB := Sta.start ev_AABB (Or.inr ⟨(hw _ (List.mem_of_getElem? (i := 3) rfl)), (hw _ (List.mem_of_getElem? (i := 37) rfl))⟩)
  have Ex_AABB := Exa.start ev_AABB gg35
  obtain ⟨s_BASIS, ev_BASIS⟩ := exa_v gg37
  have St_BASIS := Sta.start ev_BASIS (Or.inr ⟨(hw _ (List.mem_of_getElem? (i := 3) rfl)), (hw _ (List.mem_of_getElem? (i := 39) rfl))⟩)
  have Ex_BASIS := Exa.start ev_BASIS gg37
  obtain ⟨s_TRANSFORM3D, ev_TRANSFORM3D⟩ := exa_v gg39
  have St_TRANSFORM3D := Sta.start ev_TRANSFORM3D (Or.inr ⟨(hw _ (List.mem_of_getElem? (i := 3) rfl)), (hw _ (List.mem_of_getElem? (i := 41) rfl))⟩)
  have Ex_TRANSFORM3D := Exa.start ev_TRANSFORM3D gg39
  obtain ⟨s_PROJECTION, ev_PROJECTION⟩ := exa_v gg41
  have St_PROJECTION := Sta.start ev_PROJECTION (Or.inr ⟨(hw _ (List.mem_of_getElem? (i := 3) rfl)), (hw _ (List.mem_of_getElem? (i := 43) rfl))⟩)
  have Ex_PROJECTION := Exa.start ev_PROJECTION gg41
  obtain ⟨s_COLOR, ev_COLOR⟩ := exa_v gg43
  have St_COLOR := Sta.start ev_COLOR (Or.inr ⟨(hw _ (List.mem_of_getElem? (i := 3) rfl)), (hw _ (List.mem_of_getElem? (i := 45) rfl))⟩)
  have Ex_COLOR := Exa.start ev_COLOR gg43
  obtain ⟨s_STRING_NAME, ev_STRING_NAME⟩ := exa_v gg45
  have St_STRING_NAME := Sta.start ev_STRING_NAME (Or.inr ⟨(hw _ (List.mem_of_getElem? (i := 3) rfl)), (hw _ (List.mem_of_getElem? (i := 47) rfl))⟩)
  have Ex_STRING_NAME := Exa.start ev_STRING_NAME gg45
  obtain ⟨s_NODE_PATH, ev_NODE_PATH⟩ := exa_v gg47
  have St_NODE_PATH := Sta.start ev_NODE_PATH (Or.inr ⟨(hw _ (List.mem_of_getElem? (i := 3) rfl)), (hw _ (List.mem_of_getElem? (i := 49) rfl))⟩)
  have Ex_NODE_PATH := Exa.start ev_NODE_PATH gg47
  obtain ⟨s_RID, ev_RID⟩ := exa_v gg49
  have St_RID := Sta.start ev_RID (Or.inr ⟨(hw _ (List.mem_of_getElem? (i := 3) rfl)), (hw _ (List.mem_of_getElem? (i := 51) rfl))⟩)
  have Ex_RID := Exa.start ev_RID gg49
  obtain ⟨s_OBJECT, ev_OBJECT⟩ := exa_v gg51
  have St_OBJECT := Sta.start ev_OBJECT (Or.inr ⟨(hw _ (List.mem_of_getElem? (i := 3) rfl)), (hw _ (List.mem_of_getElem? (i := 53) rfl))⟩)
  have Ex_OBJECT := Exa.start ev_OBJECT gg51
  obtain ⟨s_CALLABLE, ev_CALLABLE⟩ := exa_v gg53
  have St_CALLABLE := Sta.start ev_CALLABLE (Or.inr ⟨(hw _ (List.mem_of_getElem? (i := 3) rfl)), (hw _ (List.mem_of_getElem? (i := 55) rfl))⟩)
  have Ex_CALLABLE := Exa.start ev_CALLABLE gg53
  obtain ⟨s_SIGNAL, ev_SIGNAL⟩ := exa_v gg55
  have St_SIGNAL := Sta.start ev_SIGNAL (Or.inr ⟨(hw _ (List.mem_of_getElem? (i := 3) rfl)), (hw _ (List.mem_of_getElem? (i := 57) rfl))⟩)
  have Ex_SIGNAL := Exa.start ev_SIGNAL gg55
  obtain ⟨s_DICTIONARY, ev_DICTIONARY⟩ := exa_v gg57
  have St_DICTIONARY := Sta.start ev_DICTIONARY (Or.inr ⟨(hw _ (List.mem_of_getElem? (i := 3) rfl)), (hw _ (List.mem_of_getElem? (i := 59) rfl))⟩)
  have Ex_DICTIONARY := Exa.start ev_DICTIONARY gg57
  obtain ⟨s_ARRAY, ev_ARRAY⟩ := exa_v gg59
  have St_ARRAY := Sta.start ev_ARRAY (Or.inr ⟨(hw _ (List.mem_of_getElem? (i := 3) rfl)), (hw _ (List.mem_of_getElem? (i := 61) rfl))⟩)
  have Ex_ARRAY := Exa.start ev_ARRAY gg59
  obtain ⟨s_PACKED_BYTE_ARRAY, ev_PACKED_BYTE_ARRAY⟩ := exa_v gg61
  have St_PACKED_BYTE_ARRAY := Sta.start ev_PACKED_BYTE_ARRAY (Or.inr ⟨(hw _ (List.mem_of_getElem? (i := 3) rfl)), (hw _ (List.mem_of_getElem? (i := 63) rfl))⟩)
  have Ex_PACKED_BYTE_ARRAY := Exa.start ev_PACKED_BYTE_ARRAY gg61
  obtain ⟨s_PACKED_INT32_ARRAY, ev_PACKED_INT32_ARRAY⟩ := exa_v gg63
  have St_PACKED_INT32_ARRAY := Sta.start ev_PACKED_INT32_ARRAY (Or.inr ⟨(hw _ (List.mem_of_getElem? (i := 3) rfl)), (hw _ (List.mem_of_getElem? (i := 65) rfl))⟩)
  have Ex_PACKED_INT32_ARRAY := Exa.start ev_PACKED_INT32_ARRAY gg63
  obtain ⟨s_PACKED_INT64_ARRAY, ev_PACKED_INT64_ARRAY⟩ := exa_v gg65
  have St_PACKED_INT64_ARRAY := Sta.start ev_PACKED_INT64_ARRAY (Or.inr ⟨(hw _ (List.mem_of_getElem? (i := 3) rfl)), (hw _ (List.mem_of_getElem? (i := 67) rfl))⟩)
  have Ex_PACKED_INT64_ARRAY := Exa.start ev_PACKED_INT64_ARRAY gg65
  obtain ⟨s_PACKED_FLOAT32_ARRAY, ev_PACKED_FLOAT32_ARRAY⟩ := exa_v gg67
  have St_PACKED_FLOAT32_ARRAY := Sta.start ev_PACKED_FLOAT32_ARRAY (Or.inr ⟨(hw _ (List.mem_of_getElem? (i := 3) rfl)), (hw _ (List.mem_of_getElem? (i := 69) rfl))⟩)
  have Ex_PACKED_FLOAT32_ARRAY := Exa.start ev_PACKED_FLOAT32_ARRAY gg67
  obtain ⟨s_PACKED_FLOAT64_ARRAY, ev_PACKED_FLOAT64_ARRAY⟩ := exa_v gg69
  have St_PACKED_FLOAT64_ARRAY := Sta.start ev_PACKED_FLOAT64_ARRAY (Or.inr ⟨(hw _ (List.mem_of_getElem? (i := 3) rfl)), (hw _ (List.mem_of_getElem? (i := 71) rfl))⟩)
  have Ex_PACKED_FLOAT64_ARRAY := Exa.start ev_PACKED_FLOAT64_ARRAY gg69
  obtain ⟨s_PACKED_STRING_ARRAY, ev_PACKED_STRING_ARRAY⟩ := exa_v gg71
  have St_PACKED_STRING_ARRAY := Sta.start ev_PACKED_STRING_ARRAY (Or.inr ⟨(hw _ (List.mem_of_getElem? (i := 3) rfl)), (hw _ (List.mem_of_getElem? (i := 73) rfl))⟩)
  have Ex_PACKED_STRING_ARRAY := Exa.start ev_PACKED_STRING_ARRAY gg71
  obtain ⟨s_PACKED_VECTOR2_ARRAY, ev_PACKED_VECTOR2_ARRAY⟩ := exa_v gg73
  have St_PACKED_VECTOR2_ARRAY := Sta.start ev_PACKED_VECTOR2_ARRAY (Or.inr ⟨(hw _ (List.mem_of_getElem? (i := 3) rfl)), (hw _ (List.mem_of_getElem? (i := 75) rfl))⟩)
  have Ex_PACKED_VECTOR2_ARRAY := Exa.start ev_PACKED_VECTOR2_ARRAY gg73
  obtain ⟨s_PACKED_VECTOR3_ARRAY, ev_PACKED_VECTOR3_ARRAY⟩ := exa_v gg75
  have St_PACKED_VECTOR3_ARRAY := Sta.start ev_PACKED_VECTOR3_ARRAY (Or.inr ⟨(hw _ (List.mem_of_getElem? (i := 3) rfl)), (hw _ (List.mem_of_getElem? (i := 77) rfl))⟩)
  have Ex_PACKED_VECTOR3_ARRAY := Exa.start ev_PACKED_VECTOR3_ARRAY gg75
  obtain ⟨s_PACKED_COLOR_ARRAY, ev_PACKED_COLOR_ARRAY⟩ := exa_v gg77
  have St_PACKED_COLOR_ARRAY := Sta.start ev_PACKED_COLOR_ARRAY (Or.inr ⟨(hw _ (List.mem_of_getElem? (i := 3) rfl)), (hw _ (List.mem_of_getElem? (i := 79) rfl))⟩)
  have Ex_PACKED_COLOR_ARRAY := Exa.start ev_PACKED_COLOR_ARRAY gg77
  obtain ⟨s_PACKED_VECTOR4_ARRAY, ev_PACKED_VECTOR4_ARRAY⟩ := exa_v gg79
  have St_PACKED_VECTOR4_ARRAY := Sta.start ev_PACKED_VECTOR4_ARRAY (Or.inr ⟨(hw _ (List.mem_of_getElem? (i := 3) rfl)), (hw _ (List.mem_of_getElem? (i := 81) rfl))⟩)
  have Ex_PACKED_VECTOR4_ARRAY := Exa.start ev_PACKED_VECTOR4_ARRAY gg79
  have Fo_NIL := Fld.start (own_fi ev_NIL gg81)
  have Fo_ARRAY := Fld.start (own_fi ev_ARRAY gg83)
  have Fo_DICTIONARY := Fld.start (own_fi ev_DICTIONARY gg85)
  have Fo_FLOAT := Fld.start (own_fi ev_FLOAT gg87)
  have Fo_PACKED_FLOAT32_ARRAY := Fld.start (own_fi ev_PACKED_FLOAT32_ARRAY gg89)
  have Fo_PACKED_INT64_ARRAY := Fld.start (own_fi ev_PACKED_INT64_ARRAY gg91)
  have Fo_PACKED_FLOAT64_ARRAY := Fld.start (own_fi ev_PACKED_FLOAT64_ARRAY gg93)
  have Fo_PACKED_VECTOR2_ARRAY := Fld.start (own_fi ev_PACKED_VECTOR2_ARRAY gg95)
  have Fo_RECT2 := Fld.start (own_fi ev_RECT2 gg97)
  have Fo_INT := Fld.start (own_fi ev_INT gg99)
  have Fo_TRANSFORM2D := Fld.start (own_fi ev_TRANSFORM2D gg101)
  have Fo_BOOL := Fld.start (own_fi ev_BOOL gg103)
  have Fo_RECT2I := Fld.start (own_fi ev_RECT2I gg105)
  have Fo_PACKED_COLOR_ARRAY := Fld.start (own_fi ev_PACKED_COLOR_ARRAY gg107)
  have Fo_VECTOR3I := Fld.start (own_fi ev_VECTOR3I gg109)
  have Fo_STRING_NAME := Fld.start (own_fi ev_STRING_NAME gg111)
  have Fo_VECTOR4I := Fld.start (own_fi ev_VECTOR4I gg113)
  have Fo_AABB := Fld.start (own_fi ev_AABB gg115)
  have Fo_PACKED_VECTOR4_ARRAY := Fld.start (own_fi ev_PACKED_VECTOR4_ARRAY gg117)
  have Fo_QUATERNION := Fld.start (own_fi ev_QUATERNION gg119)
  have Fo_RID := Fld.start (own_fi ev_RID gg121)
  have Fo_PROJECTION := Fld.start (own_fi ev_PROJECTION gg123)
  have Fo_PLANE := Fld.start (own_fi ev_PLANE gg125)
  have Fo_NODE_PATH := Fld.start (own_fi ev_NODE_PATH gg127)
  have Fo_PACKED_BYTE_ARRAY := Fld.start (own_fi ev_PACKED_BYTE_ARRAY gg129)
  have Fo_VECTOR2 := Fld.start (own_fi ev_VECTOR2 gg131)
  have Fo_BASIS := Fld.start (own_fi ev_BASIS gg133)
  have Fo_VECTOR2I := Fld.start (own_fi ev_VECTOR2I gg135)
  have Fo_VECTOR3 := Fld.start (own_fi ev_VECTOR3 gg137)
  have Fo_VECTOR4 := Fld.start (own_fi ev_VECTOR4 gg139)
  have Fo_CALLABLE := Fld.start (own_fi ev_CALLABLE gg141)
  have Fo_OBJECT := Fld.start (own_fi ev_OBJECT gg143)
  have Fo_STRING := Fld.start (own_fi ev_STRING gg145)
  have Fo_COLOR := Fld.start (own_fi ev_COLOR gg147)
  have Fo_TRANSFORM3D := Fld.start (own_fi ev_TRANSFORM3D gg149)
  have Fo_PACKED_INT32_ARRAY := Fld.start (own_fi ev_PACKED_INT32_ARRAY gg151)
  have Fo_PACKED_VECTOR3_ARRAY := Fld.start (own_fi ev_PACKED_VECTOR3_ARRAY gg153)
  have Fo_SIGNAL := Fld.start (own_fi ev_SIGNAL gg155)
  have Fo_PACKED_STRING_ARRAY := Fld.start (own_fi ev_PACKED_STRING_ARRAY gg156)
  have hE : ∀ i, i < 39 → Exa s s.heap (([s_NIL, s_BOOL, s_INT, s_FLOAT, s_STRING, s_VECTOR2, s_VECTOR2I, s_RECT2, s_RECT2I, s_VECTOR3, s_VECTOR3I, s_TRANSFORM2D, s_VECTOR4, s_VECTOR4I, s_PLANE, s_QUATERNION, s_AABB, s_BASIS, s_TRANSFORM3D, s_PROJECTION, s_COLOR, s_STRING_NAME, s_NODE_PATH, s_RID, s_OBJECT, s_CALLABLE, s_SIGNAL, s_DICTIONARY, s_ARRAY, s_PACKED_BYTE_ARRAY, s_PACKED_INT32_ARRAY, s_PACKED_INT64_ARRAY, s_PACKED_FLOAT32_ARRAY, s_PACKED_FLOAT64_ARRAY, s_PACKED_STRING_ARRAY, s_PACKED_VECTOR2_ARRAY, s_PACKED_VECTOR3_ARRAY, s_PACKED_COLOR_ARRAY, s_PACKED_VECTOR4_ARRAY] : List Addr).getD i 0) "com/example/quadvar/quadvar/model/VariantType" := fun i hi => match i, hi with
    | 0, _ => Ex_NIL
    | 1, _ => Ex_BOOL
    | 2, _ => Ex_INT
    | 3, _ => Ex_FLOAT
    | 4, _ => Ex_STRING
    | 5, _ => Ex_VECTOR2
    | 6, _ => Ex_VECTOR2I
    | 7, _ => Ex_RECT2
    | 8, _ => Ex_RECT2I
    | 9, _ => Ex_VECTOR3
    | 10, _ => Ex_VECTOR3I
    | 11, _ => Ex_TRANSFORM2D
    | 12, _ => Ex_VECTOR4
    | 13, _ => Ex_VECTOR4I
    | 14, _ => Ex_PLANE
    | 15, _ => Ex_QUATERNION
    | 16, _ => Ex_AABB
    | 17, _ => Ex_BASIS
    | 18, _ => Ex_TRANSFORM3D
    | 19, _ => Ex_PROJECTION
    | 20, _ => Ex_COLOR
    | 21, _ => Ex_STRING_NAME
    | 22, _ => Ex_NODE_PATH
    | 23, _ => Ex_RID
    | 24, _ => Ex_OBJECT
    | 25, _ => Ex_CALLABLE
    | 26, _ => Ex_SIGNAL
    | 27, _ => Ex_DICTIONARY
    | 28, _ => Ex_ARRAY
    | 29, _ => Ex_PACKED_BYTE_ARRAY
    | 30, _ => Ex_PACKED_INT32_ARRAY
    | 31, _ => Ex_PACKED_INT64_ARRAY
    | 32, _ => Ex_PACKED_FLOAT32_ARRAY
    | 33, _ => Ex_PACKED_FLOAT64_ARRAY
    | 34, _ => Ex_PACKED_STRING_ARRAY
    | 35, _ => Ex_PACKED_VECTOR2_ARRAY
    | 36, _ => Ex_PACKED_VECTOR3_ARRAY
    | 37, _ => Ex_PACKED_COLOR_ARRAY
    | 38, _ => Ex_PACKED_VECTOR4_ARRAY
    | k + 39, h => absurd h (by omega)
  have hF : ∀ i, i < 39 → Fld s s.heap (([s_NIL, s_BOOL, s_INT, s_FLOAT, s_STRING, s_VECTOR2, s_VECTOR2I, s_RECT2, s_RECT2I, s_VECTOR3, s_VECTOR3I, s_TRANSFORM2D, s_VECTOR4, s_VECTOR4I, s_PLANE, s_QUATERNION, s_AABB, s_BASIS, s_TRANSFORM3D, s_PROJECTION, s_COLOR, s_STRING_NAME, s_NODE_PATH, s_RID, s_OBJECT, s_CALLABLE, s_SIGNAL, s_DICTIONARY, s_ARRAY, s_PACKED_BYTE_ARRAY, s_PACKED_INT32_ARRAY, s_PACKED_INT64_ARRAY, s_PACKED_FLOAT32_ARRAY, s_PACKED_FLOAT64_ARRAY, s_PACKED_STRING_ARRAY, s_PACKED_VECTOR2_ARRAY, s_PACKED_VECTOR3_ARRAY, s_PACKED_COLOR_ARRAY, s_PACKED_VECTOR4_ARRAY] : List Addr).getD i 0) "java/lang/Enum" "ordinal" "I" (.int (Int32.ofNat i)) := fun i hi => match i, hi with
    | 0, _ => Fo_NIL
    | 1, _ => Fo_BOOL
    | 2, _ => Fo_INT
    | 3, _ => Fo_FLOAT
    | 4, _ => Fo_STRING
    | 5, _ => Fo_VECTOR2
    | 6, _ => Fo_VECTOR2I
    | 7, _ => Fo_RECT2
    | 8, _ => Fo_RECT2I
    | 9, _ => Fo_VECTOR3
    | 10, _ => Fo_VECTOR3I
    | 11, _ => Fo_TRANSFORM2D
    | 12, _ => Fo_VECTOR4
    | 13, _ => Fo_VECTOR4I
    | 14, _ => Fo_PLANE
    | 15, _ => Fo_QUATERNION
    | 16, _ => Fo_AABB
    | 17, _ => Fo_BASIS
    | 18, _ => Fo_TRANSFORM3D
    | 19, _ => Fo_PROJECTION
    | 20, _ => Fo_COLOR
    | 21, _ => Fo_STRING_NAME
    | 22, _ => Fo_NODE_PATH
    | 23, _ => Fo_RID
    | 24, _ => Fo_OBJECT
    | 25, _ => Fo_CALLABLE
    | 26, _ => Fo_SIGNAL
    | 27, _ => Fo_DICTIONARY
    | 28, _ => Fo_ARRAY
    | 29, _ => Fo_PACKED_BYTE_ARRAY
    | 30, _ => Fo_PACKED_INT32_ARRAY
    | 31, _ => Fo_PACKED_INT64_ARRAY
    | 32, _ => Fo_PACKED_FLOAT32_ARRAY
    | 33, _ => Fo_PACKED_FLOAT64_ARRAY
    | 34, _ => Fo_PACKED_STRING_ARRAY
    | 35, _ => Fo_PACKED_VECTOR2_ARRAY
    | 36, _ => Fo_PACKED_VECTOR3_ARRAY
    | 37, _ => Fo_PACKED_COLOR_ARRAY
    | 38, _ => Fo_PACKED_VECTOR4_ARRAY
    | k + 39, h => absurd h (by omega)
  have hinj : ∀ j k, j < 39 → k < 39 → ([s_NIL, s_BOOL, s_INT, s_FLOAT, s_STRING, s_VECTOR2, s_VECTOR2I, s_RECT2, s_RECT2I, s_VECTOR3, s_VECTOR3I, s_TRANSFORM2D, s_VECTOR4, s_VECTOR4I, s_PLANE, s_QUATERNION, s_AABB, s_BASIS, s_TRANSFORM3D, s_PROJECTION, s_COLOR, s_STRING_NAME, s_NODE_PATH, s_RID, s_OBJECT, s_CALLABLE, s_SIGNAL, s_DICTIONARY, s_ARRAY, s_PACKED_BYTE_ARRAY, s_PACKED_INT32_ARRAY, s_PACKED_INT64_ARRAY, s_PACKED_FLOAT32_ARRAY, s_PACKED_FLOAT64_ARRAY, s_PACKED_STRING_ARRAY, s_PACKED_VECTOR2_ARRAY, s_PACKED_VECTOR3_ARRAY, s_PACKED_COLOR_ARRAY, s_PACKED_VECTOR4_ARRAY] : List Addr).getD j 0 = ([s_NIL, s_BOOL, s_INT, s_FLOAT, s_STRING, s_VECTOR2, s_VECTOR2I, s_RECT2, s_RECT2I, s_VECTOR3, s_VECTOR3I, s_TRANSFORM2D, s_VECTOR4, s_VECTOR4I, s_PLANE, s_QUATERNION, s_AABB, s_BASIS, s_TRANSFORM3D, s_PROJECTION, s_COLOR, s_STRING_NAME, s_NODE_PATH, s_RID, s_OBJECT, s_CALLABLE, s_SIGNAL, s_DICTIONARY, s_ARRAY, s_PACKED_BYTE_ARRAY, s_PACKED_INT32_ARRAY, s_PACKED_INT64_ARRAY, s_PACKED_FLOAT32_ARRAY, s_PACKED_FLOAT64_ARRAY, s_PACKED_STRING_ARRAY, s_PACKED_VECTOR2_ARRAY, s_PACKED_VECTOR3_ARRAY, s_PACKED_COLOR_ARRAY, s_PACKED_VECTOR4_ARRAY] : List Addr).getD k 0 → j = k := fun j k hj hk q => by
    refine Classical.byContradiction fun hne => Fld.ne (hF j hj) (hF k hk) (fun e => hne ?_) q
    have e1 := congrArg Int32.toInt (Value.int.inj e)
    rw [Int32.toInt_ofNat_small (by omega), Int32.toInt_ofNat_small (by omega)] at e1
    omega
  obtain ⟨n, o, h1, h2, h3, _, L, rfl, ⟨rfl, N⟩, hq⟩ := rm0 l s _ hw tables_1 i0 (fun i => ([s_NIL, s_BOOL, s_INT, s_FLOAT, s_STRING, s_VECTOR2, s_VECTOR2I, s_RECT2, s_RECT2I, s_VECTOR3, s_VECTOR3I, s_TRANSFORM2D, s_VECTOR4, s_VECTOR4I, s_PLANE, s_QUATERNION, s_AABB, s_BASIS, s_TRANSFORM3D, s_PROJECTION, s_COLOR, s_STRING_NAME, s_NODE_PATH, s_RID, s_OBJECT, s_CALLABLE, s_SIGNAL, s_DICTIONARY, s_ARRAY, s_PACKED_BYTE_ARRAY, s_PACKED_INT32_ARRAY, s_PACKED_INT64_ARRAY, s_PACKED_FLOAT32_ARRAY, s_PACKED_FLOAT64_ARRAY, s_PACKED_STRING_ARRAY, s_PACKED_VECTOR2_ARRAY, s_PACKED_VECTOR3_ARRAY, s_PACKED_COLOR_ARRAY, s_PACKED_VECTOR4_ARRAY] : List Addr).getD i 0) s.heap s.heap.size (Nat.le_refl _) (Old.start s) St_NIL St_BOOL St_INT St_FLOAT St_STRING St_VECTOR2 St_VECTOR2I St_RECT2 St_RECT2I St_VECTOR3 St_VECTOR3I St_TRANSFORM2D St_VECTOR4 St_VECTOR4I St_PLANE St_QUATERNION St_AABB St_BASIS St_TRANSFORM3D St_PROJECTION St_COLOR St_STRING_NAME St_NODE_PATH St_RID St_OBJECT St_CALLABLE St_SIGNAL St_DICTIONARY St_ARRAY St_PACKED_BYTE_ARRAY St_PACKED_INT32_ARRAY St_PACKED_INT64_ARRAY St_PACKED_FLOAT32_ARRAY St_PACKED_FLOAT64_ARRAY St_PACKED_STRING_ARRAY St_PACKED_VECTOR2_ARRAY St_PACKED_VECTOR3_ARRAY St_PACKED_COLOR_ARRAY St_PACKED_VECTOR4_ARRAY hE hinj p e ha hc hk s m _ below hf ((Spec.applies_iff_loose hf).mp happ).1 ⟨rfl, State.Warmed39.refl s, rfl⟩ trivial
  refine ⟨n, _, h1, h2, h3, hpost _ _ _ _ _ _ ⟨Cond.after_iff.mpr rfl, Cond.after_iff.mpr (eq_i res_at (Term.int_eval (1)) rfl), trivial⟩ ⟨hq.1, hq.2.1, (hq.2.2.sift fun y hy => Or.inr (N y hy)).mono (by decide) (by decide)⟩⟩
theorem main_1_1 : Claimed_1_1 := comes_1 fun _ _ _ _ _ _ h hF => ⟨h.1, hF⟩
theorem main_1_2 : Claimed_1_2 := comes_1 fun _ _ _ _ _ _ h hF => ⟨h.2.1, hF⟩
end Jvm.Pilot.@@N@@
namespace Jvm.Pilot.@@N@@
open Jvm Jvm.ClassFile Sem Op Lib Jvm.Free Jvm.Stand Jvm.Pilot.@@N@@.Jvm.D
/-! MADE BY PROGRAM (witnessworld.py) out of the Statement's table words and the real class files: 13 classes; the members and pool entries that the words name. The judged class is class 1, her method 1. -/
namespace start1
open Jvm.ClassFile
def u (s : String) : CpInfo := .utf8 (stringToUtf16 s)
/-- a pool by its gaps: so many unusable entries, then the entry; so many at the end -/
def gap : Nat → List CpInfo → List CpInfo
  | 0, r => r
  | n + 1, r => .unusable :: gap n r
def poolList (es : List (Nat × CpInfo)) (last : Nat) : List CpInfo := es.foldr (fun e r => gap e.1 (e.2 :: r)) (gap last [])
def pool (es : List (Nat × CpInfo)) (last : Nat) : Array CpInfo := ⟨poolList es last⟩
def fileOf (pool : Array CpInfo) (this : Nat) (attrs : Array Attribute := #[]) (ms : Array MethodInfo := #[]) (fl : Nat := 33) (sup : Nat := 0) (ifs : Array Nat := #[]) (fds : Array FieldInfo := #[]) : ClassFile where
  minorVersion := 0
  majorVersion := 65
  constantPool := pool
  accessFlags := fl
  thisClass := this
  superClass := sup
  interfaces := ifs
  fields := fds
  methods := ms
  attributes := attrs
def plain (name : String) (sup : Option ClassId) : Class where
  name := name
  kind := .ordinary
  loader := none
  accessFlags := 33
  super := sup
  interfaces := #[]
  cf := none
  fields := #[]
  methods := #[]
  instanceTypes := #[]
  staticTypes := #[]
  resolved := #[]
  callSites := []
  init := .initialized
  statics := none
  mirror := none

def pool0 : Array CpInfo := pool [(5, u "<init>"), (0, u "()V"), (1, .class_ 10), (1, u "java/lang/Object")] 113

def k0m0 : Method := { name := "<init>", desc := "()V", sig := { parameters := [], returnType := none }, accessFlags := 1, code := none }
/-- java/lang/Object -/
def k0 : Class := { plain "java/lang/Object" none with
  accessFlags := 33
  interfaces := #[]
  cf := some (fileOf pool0 8 #[] #[{ accessFlags := 1, nameIndex := 5, descriptorIndex := 6, attributes := #[] }] 33 0 #[] #[])
  fields := #[]
  methods := #[k0m0]
  instanceTypes := #[]
  staticTypes := #[]
  resolved := Array.replicate 124 none
  statics := none }

def pool1 : Array CpInfo := pool [(2, .class_ 4), (1, u "java/lang/Object"), (0, u "<init>"), (0, u "()V"), (0, .class_ 8), (0, u "com/example/quadvar/quadvar/model/VariantType"), (0, .fieldref 7 10), (0, .nameAndType 11 12), (0, u "NIL"), (0, u "Lcom/example/quadvar/quadvar/model/VariantType;"), (0, .fieldref 7 14), (0, .nameAndType 15 12), (0, u "BOOL"), (0, .fieldref 7 17), (0, .nameAndType 18 12), (0, u "INT"), (0, .fieldref 7 20), (0, .nameAndType 21 12), (0, u "FLOAT"), (0, .fieldref 7 23), (0, .nameAndType 24 12), (0, u "STRING"), (0, .fieldref 7 26), (0, .nameAndType 27 12), (0, u "VECTOR2"), (0, .fieldref 7 29), (0, .nameAndType 30 12), (0, u "VECTOR2I"), (0, .fieldref 7 32), (0, .nameAndType 33 12), (0, u "RECT2"), (0, .fieldref 7 35), (0, .nameAndType 36 12), (0, u "RECT2I"), (0, .fieldref 7 38), (0, .nameAndType 39 12), (0, u "VECTOR3"), (0, .fieldref 7 41), (0, .nameAndType 42 12), (0, u "VECTOR3I"), (0, .fieldref 7 44), (0, .nameAndType 45 12), (0, u "TRANSFORM2D"), (0, .fieldref 7 47), (0, .nameAndType 48 12), (0, u "VECTOR4"), (0, .fieldref 7 50), (0, .nameAndType 51 12), (0, u "VECTOR4I"), (0, .fieldref 7 53), (0, .nameAndType 54 12), (0, u "PLANE"), (0, .fieldref 7 56), (0, .nameAndType 57 12), (0, u "QUATERNION"), (0, .fieldref 7 59), (0, .nameAndType 60 12), (0, u "AABB"), (0, .fieldref 7 62), (0, .nameAndType 63 12), (0, u "BASIS"), (0, .fieldref 7 65), (0, .nameAndType 66 12), (0, u "TRANSFORM3D"), (0, .fieldref 7 68), (0, .nameAndType 69 12), (0, u "PROJECTION"), (0, .fieldref 7 71), (0, .nameAndType 72 12), (0, u "COLOR"), (0, .fieldref 7 74), (0, .nameAndType 75 12), (0, u "STRING_NAME"), (0, .fieldref 7 77), (0, .nameAndType 78 12), (0, u "NODE_PATH"), (0, .fieldref 7 80), (0, .nameAndType 81 12), (0, u "RID"), (0, .fieldref 7 83), (0, .nameAndType 84 12), (0, u "OBJECT"), (0, .fieldref 7 86), (0, .nameAndType 87 12), (0, u "CALLABLE"), (0, .fieldref 7 89), (0, .nameAndType 90 12), (0, u "SIGNAL"), (0, .fieldref 7 92), (0, .nameAndType 93 12), (0, u "DICTIONARY"), (0, .fieldref 7 95), (0, .nameAndType 96 12), (0, u "ARRAY"), (0, .fieldref 7 98), (0, .nameAndType 99 12), (0, u "PACKED_BYTE_ARRAY"), (0, .fieldref 7 101), (0, .nameAndType 102 12), (0, u "PACKED_INT32_ARRAY"), (0, .fieldref 7 104), (0, .nameAndType 105 12), (0, u "PACKED_INT64_ARRAY"), (0, .fieldref 7 107), (0, .nameAndType 108 12), (0, u "PACKED_FLOAT32_ARRAY"), (0, .fieldref 7 110), (0, .nameAndType 111 12), (0, u "PACKED_FLOAT64_ARRAY"), (0, .fieldref 7 113), (0, .nameAndType 114 12), (0, u "PACKED_STRING_ARRAY"), (0, .fieldref 7 116), (0, .nameAndType 117 12), (0, u "PACKED_VECTOR2_ARRAY"), (0, .fieldref 7 119), (0, .nameAndType 120 12), (0, u "PACKED_VECTOR3_ARRAY"), (0, .fieldref 7 122), (0, .nameAndType 123 12), (0, u "PACKED_COLOR_ARRAY"), (0, .fieldref 7 125), (0, .nameAndType 126 12), (0, u "PACKED_VECTOR4_ARRAY"), (0, .integer 2147483647), (0, .methodref 7 129), (0, .nameAndType 130 131), (0, u "isContainer"), (0, u "()Z"), (0, .class_ 133), (0, u "com/example/quadvar/quadvar/model/VariantTypeIsContainerPinLaw"), (2, u "law"), (0, u "(I)Z")] 5

def k1m0 : Method := { name := "<init>", desc := "()V", sig := { parameters := [], returnType := none }, accessFlags := 2, code := none }
def k1c1 : Code := { maxStack := 4, maxLocals := 4, code := code, exceptionTable := #[], attributes := #[] }
def k1m1 : Method := { name := "law", desc := "(I)Z", sig := { parameters := [.int], returnType := some .boolean }, accessFlags := 9, code := some k1c1 }
/-- com/example/quadvar/quadvar/model/VariantTypeIsContainerPinLaw -/
def k1 : Class := { plain "com/example/quadvar/quadvar/model/VariantTypeIsContainerPinLaw" (some 0) with
  accessFlags := 49
  interfaces := #[]
  cf := some (fileOf pool1 132 #[] #[{ accessFlags := 2, nameIndex := 5, descriptorIndex := 6, attributes := #[] }, { accessFlags := 9, nameIndex := 136, descriptorIndex := 137, attributes := #[] }] 49 2 #[] #[])
  fields := #[]
  methods := #[k1m0, k1m1]
  instanceTypes := #[]
  staticTypes := #[]
  resolved := Array.replicate 143 none
  statics := none }

def pool2 : Array CpInfo := pool [(1, .class_ 2), (0, u "java/lang/constant/Constable"), (0, .class_ 4), (0, u "java/lang/Object")] 6

/-- java/lang/constant/Constable -/
def k2 : Class := { plain "java/lang/constant/Constable" (some 0) with
  accessFlags := 1537
  interfaces := #[]
  cf := some (fileOf pool2 1 #[] #[] 1537 3 #[] #[])
  fields := #[]
  methods := #[]
  instanceTypes := #[]
  staticTypes := #[]
  resolved := Array.replicate 11 none
  statics := none }

def pool3 : Array CpInfo := pool [(1, .class_ 2), (0, u "java/lang/Comparable"), (0, .class_ 4), (0, u "java/lang/Object")] 7

/-- java/lang/Comparable -/
def k3 : Class := { plain "java/lang/Comparable" (some 0) with
  accessFlags := 1537
  interfaces := #[]
  cf := some (fileOf pool3 1 #[] #[] 1537 3 #[] #[])
  fields := #[]
  methods := #[]
  instanceTypes := #[]
  staticTypes := #[]
  resolved := Array.replicate 12 none
  statics := none }

def pool4 : Array CpInfo := pool [(1, .class_ 2), (0, u "java/io/Serializable"), (0, .class_ 4), (0, u "java/lang/Object")] 2

/-- java/io/Serializable -/
def k4 : Class := { plain "java/io/Serializable" (some 0) with
  accessFlags := 1537
  interfaces := #[]
  cf := some (fileOf pool4 1 #[] #[] 1537 3 #[] #[])
  fields := #[]
  methods := #[]
  instanceTypes := #[]
  staticTypes := #[]
  resolved := Array.replicate 7 none
  statics := none }

def pool5 : Array CpInfo := pool [(2, .class_ 4), (1, u "java/lang/Enum"), (0, u "name"), (0, u "Ljava/lang/String;"), (2, u "ordinal"), (0, u "I"), (1, .class_ 14), (1, u "java/lang/Object"), (4, u "hash"), (86, .class_ 108), (1, u "java/lang/Enum$EnumDesc"), (2, .class_ 112), (0, u "java/lang/constant/Constable"), (0, .class_ 114), (0, u "java/lang/Comparable"), (0, .class_ 116), (0, u "java/io/Serializable")] 87

/-- java/lang/Enum -/
def k5 : Class := { plain "java/lang/Enum" (some 0) with
  accessFlags := 1057
  interfaces := #[2, 3, 4]
  cf := some (fileOf pool5 2 #[.nestMembers #[106]] #[] 1057 12 #[111, 113, 115] #[{ accessFlags := 18, nameIndex := 5, descriptorIndex := 6, attributes := #[] }, { accessFlags := 18, nameIndex := 9, descriptorIndex := 10, attributes := #[] }, { accessFlags := 2, nameIndex := 19, descriptorIndex := 10, attributes := #[] }])
  fields := #[{ name := "name", type := (.object "java/lang/String"), accessFlags := 18, slot := 0, constantValue := 0 }, { name := "ordinal", type := .int, accessFlags := 18, slot := 1, constantValue := 0 }, { name := "hash", type := .int, accessFlags := 2, slot := 2, constantValue := 0 }]
  methods := #[]
  instanceTypes := #[(.object "java/lang/String"), .int, .int]
  staticTypes := #[]
  resolved := Array.replicate 204 none
  statics := none }

def pool6 : Array CpInfo := pool [(1, .class_ 2), (0, u "com/example/quadvar/quadvar/model/VariantType"), (2, u "NIL"), (0, u "Lcom/example/quadvar/quadvar/model/VariantType;"), (2, u "BOOL"), (2, u "INT"), (2, u "FLOAT"), (2, u "STRING"), (2, u "VECTOR2"), (2, u "VECTOR2I"), (2, u "RECT2"), (2, u "RECT2I"), (2, u "VECTOR3"), (2, u "VECTOR3I"), (2, u "TRANSFORM2D"), (2, u "VECTOR4"), (2, u "VECTOR4I"), (2, u "PLANE"), (2, u "QUATERNION"), (2, u "AABB"), (2, u "BASIS"), (2, u "TRANSFORM3D"), (2, u "PROJECTION"), (2, u "COLOR"), (2, u "STRING_NAME"), (2, u "NODE_PATH"), (2, u "RID"), (2, u "OBJECT"), (2, u "CALLABLE"), (2, u "SIGNAL"), (0, .fieldref 1 86), (0, .nameAndType 87 6), (0, u "DICTIONARY"), (0, .fieldref 1 89), (0, .nameAndType 90 6), (0, u "ARRAY"), (2, u "PACKED_BYTE_ARRAY"), (2, u "PACKED_INT32_ARRAY"), (2, u "PACKED_INT64_ARRAY"), (2, u "PACKED_FLOAT32_ARRAY"), (2, u "PACKED_FLOAT64_ARRAY"), (2, u "PACKED_STRING_ARRAY"), (2, u "PACKED_VECTOR2_ARRAY"), (2, u "PACKED_VECTOR3_ARRAY"), (2, u "PACKED_COLOR_ARRAY"), (2, u "PACKED_VECTOR4_ARRAY"), (2, u "$VALUES"), (0, u "[Lcom/example/quadvar/quadvar/model/VariantType;"), (6, .class_ 133), (1, u "java/lang/Enum"), (3, .class_ 139), (1, u "com/example/quadvar/quadvar/model/VariantType$Shape"), (1, u "Lcom/example/quadvar/quadvar/model/VariantType$Shape;"), (1, .class_ 145), (1, u "com/example/quadvar/quadvar/model/VariantType$Numbers"), (1, u "Lcom/example/quadvar/quadvar/model/VariantType$Numbers;"), (11, u "typeName"), (0, u "Ljava/lang/String;"), (2, u "shape"), (2, u "numbers"), (8, u "componentNames"), (0, u "Ljava/util/List;"), (34, u "()Z"), (9, u "BY_NAME"), (0, u "Ljava/util/Map;"), (252, u "isContainer")] 32

def k6c0 : Code := { maxStack := 2, maxLocals := 1, code := prog_61_method_8_code, exceptionTable := #[], attributes := #[] }
def k6m0 : Method := { name := "isContainer", desc := "()Z", sig := { parameters := [], returnType := some .boolean }, accessFlags := 1, code := some k6c0 }
/-- com/example/quadvar/quadvar/model/VariantType -/
def k6 : Class := { plain "com/example/quadvar/quadvar/model/VariantType" (some 5) with
  accessFlags := 16433
  interfaces := #[]
  cf := some (fileOf pool6 1 #[.nestMembers #[143, 137]] #[{ accessFlags := 1, nameIndex := 475, descriptorIndex := 211, attributes := #[] }] 16433 131 #[] #[{ accessFlags := 16409, nameIndex := 5, descriptorIndex := 6, attributes := #[] }, { accessFlags := 16409, nameIndex := 9, descriptorIndex := 6, attributes := #[] }, { accessFlags := 16409, nameIndex := 12, descriptorIndex := 6, attributes := #[] }, { accessFlags := 16409, nameIndex := 15, descriptorIndex := 6, attributes := #[] }, { accessFlags := 16409, nameIndex := 18, descriptorIndex := 6, attributes := #[] }, { accessFlags := 16409, nameIndex := 21, descriptorIndex := 6, attributes := #[] }, { accessFlags := 16409, nameIndex := 24, descriptorIndex := 6, attributes := #[] }, { accessFlags := 16409, nameIndex := 27, descriptorIndex := 6, attributes := #[] }, { accessFlags := 16409, nameIndex := 30, descriptorIndex := 6, attributes := #[] }, { accessFlags := 16409, nameIndex := 33, descriptorIndex := 6, attributes := #[] }, { accessFlags := 16409, nameIndex := 36, descriptorIndex := 6, attributes := #[] }, { accessFlags := 16409, nameIndex := 39, descriptorIndex := 6, attributes := #[] }, { accessFlags := 16409, nameIndex := 42, descriptorIndex := 6, attributes := #[] }, { accessFlags := 16409, nameIndex := 45, descriptorIndex := 6, attributes := #[] }, { accessFlags := 16409, nameIndex := 48, descriptorIndex := 6, attributes := #[] }, { accessFlags := 16409, nameIndex := 51, descriptorIndex := 6, attributes := #[] }, { accessFlags := 16409, nameIndex := 54, descriptorIndex := 6, attributes := #[] }, { accessFlags := 16409, nameIndex := 57, descriptorIndex := 6, attributes := #[] }, { accessFlags := 16409, nameIndex := 60, descriptorIndex := 6, attributes := #[] }, { accessFlags := 16409, nameIndex := 63, descriptorIndex := 6, attributes := #[] }, { accessFlags := 16409, nameIndex := 66, descriptorIndex := 6, attributes := #[] }, { accessFlags := 16409, nameIndex := 69, descriptorIndex := 6, attributes := #[] }, { accessFlags := 16409, nameIndex := 72, descriptorIndex := 6, attributes := #[] }, { accessFlags := 16409, nameIndex := 75, descriptorIndex := 6, attributes := #[] }, { accessFlags := 16409, nameIndex := 78, descriptorIndex := 6, attributes := #[] }, { accessFlags := 16409, nameIndex := 81, descriptorIndex := 6, attributes := #[] }, { accessFlags := 16409, nameIndex := 84, descriptorIndex := 6, attributes := #[] }, { accessFlags := 16409, nameIndex := 87, descriptorIndex := 6, attributes := #[] }, { accessFlags := 16409, nameIndex := 90, descriptorIndex := 6, attributes := #[] }, { accessFlags := 16409, nameIndex := 93, descriptorIndex := 6, attributes := #[] }, { accessFlags := 16409, nameIndex := 96, descriptorIndex := 6, attributes := #[] }, { accessFlags := 16409, nameIndex := 99, descriptorIndex := 6, attributes := #[] }, { accessFlags := 16409, nameIndex := 102, descriptorIndex := 6, attributes := #[] }, { accessFlags := 16409, nameIndex := 105, descriptorIndex := 6, attributes := #[] }, { accessFlags := 16409, nameIndex := 108, descriptorIndex := 6, attributes := #[] }, { accessFlags := 16409, nameIndex := 111, descriptorIndex := 6, attributes := #[] }, { accessFlags := 16409, nameIndex := 114, descriptorIndex := 6, attributes := #[] }, { accessFlags := 16409, nameIndex := 117, descriptorIndex := 6, attributes := #[] }, { accessFlags := 16409, nameIndex := 120, descriptorIndex := 6, attributes := #[] }, { accessFlags := 26, nameIndex := 221, descriptorIndex := 222, attributes := #[] }, { accessFlags := 18, nameIndex := 159, descriptorIndex := 160, attributes := #[] }, { accessFlags := 18, nameIndex := 163, descriptorIndex := 141, attributes := #[] }, { accessFlags := 18, nameIndex := 166, descriptorIndex := 147, attributes := #[] }, { accessFlags := 18, nameIndex := 175, descriptorIndex := 176, attributes := #[] }, { accessFlags := 4122, nameIndex := 123, descriptorIndex := 124, attributes := #[] }])
  fields := #[{ name := "NIL", type := (.object "com/example/quadvar/quadvar/model/VariantType"), accessFlags := 16409, slot := 0, constantValue := 0 }, { name := "BOOL", type := (.object "com/example/quadvar/quadvar/model/VariantType"), accessFlags := 16409, slot := 1, constantValue := 0 }, { name := "INT", type := (.object "com/example/quadvar/quadvar/model/VariantType"), accessFlags := 16409, slot := 2, constantValue := 0 }, { name := "FLOAT", type := (.object "com/example/quadvar/quadvar/model/VariantType"), accessFlags := 16409, slot := 3, constantValue := 0 }, { name := "STRING", type := (.object "com/example/quadvar/quadvar/model/VariantType"), accessFlags := 16409, slot := 4, constantValue := 0 }, { name := "VECTOR2", type := (.object "com/example/quadvar/quadvar/model/VariantType"), accessFlags := 16409, slot := 5, constantValue := 0 }, { name := "VECTOR2I", type := (.object "com/example/quadvar/quadvar/model/VariantType"), accessFlags := 16409, slot := 6, constantValue := 0 }, { name := "RECT2", type := (.object "com/example/quadvar/quadvar/model/VariantType"), accessFlags := 16409, slot := 7, constantValue := 0 }, { name := "RECT2I", type := (.object "com/example/quadvar/quadvar/model/VariantType"), accessFlags := 16409, slot := 8, constantValue := 0 }, { name := "VECTOR3", type := (.object "com/example/quadvar/quadvar/model/VariantType"), accessFlags := 16409, slot := 9, constantValue := 0 }, { name := "VECTOR3I", type := (.object "com/example/quadvar/quadvar/model/VariantType"), accessFlags := 16409, slot := 10, constantValue := 0 }, { name := "TRANSFORM2D", type := (.object "com/example/quadvar/quadvar/model/VariantType"), accessFlags := 16409, slot := 11, constantValue := 0 }, { name := "VECTOR4", type := (.object "com/example/quadvar/quadvar/model/VariantType"), accessFlags := 16409, slot := 12, constantValue := 0 }, { name := "VECTOR4I", type := (.object "com/example/quadvar/quadvar/model/VariantType"), accessFlags := 16409, slot := 13, constantValue := 0 }, { name := "PLANE", type := (.object "com/example/quadvar/quadvar/model/VariantType"), accessFlags := 16409, slot := 14, constantValue := 0 }, { name := "QUATERNION", type := (.object "com/example/quadvar/quadvar/model/VariantType"), accessFlags := 16409, slot := 15, constantValue := 0 }, { name := "AABB", type := (.object "com/example/quadvar/quadvar/model/VariantType"), accessFlags := 16409, slot := 16, constantValue := 0 }, { name := "BASIS", type := (.object "com/example/quadvar/quadvar/model/VariantType"), accessFlags := 16409, slot := 17, constantValue := 0 }, { name := "TRANSFORM3D", type := (.object "com/example/quadvar/quadvar/model/VariantType"), accessFlags := 16409, slot := 18, constantValue := 0 }, { name := "PROJECTION", type := (.object "com/example/quadvar/quadvar/model/VariantType"), accessFlags := 16409, slot := 19, constantValue := 0 }, { name := "COLOR", type := (.object "com/example/quadvar/quadvar/model/VariantType"), accessFlags := 16409, slot := 20, constantValue := 0 }, { name := "STRING_NAME", type := (.object "com/example/quadvar/quadvar/model/VariantType"), accessFlags := 16409, slot := 21, constantValue := 0 }, { name := "NODE_PATH", type := (.object "com/example/quadvar/quadvar/model/VariantType"), accessFlags := 16409, slot := 22, constantValue := 0 }, { name := "RID", type := (.object "com/example/quadvar/quadvar/model/VariantType"), accessFlags := 16409, slot := 23, constantValue := 0 }, { name := "OBJECT", type := (.object "com/example/quadvar/quadvar/model/VariantType"), accessFlags := 16409, slot := 24, constantValue := 0 }, { name := "CALLABLE", type := (.object "com/example/quadvar/quadvar/model/VariantType"), accessFlags := 16409, slot := 25, constantValue := 0 }, { name := "SIGNAL", type := (.object "com/example/quadvar/quadvar/model/VariantType"), accessFlags := 16409, slot := 26, constantValue := 0 }, { name := "DICTIONARY", type := (.object "com/example/quadvar/quadvar/model/VariantType"), accessFlags := 16409, slot := 27, constantValue := 0 }, { name := "ARRAY", type := (.object "com/example/quadvar/quadvar/model/VariantType"), accessFlags := 16409, slot := 28, constantValue := 0 }, { name := "PACKED_BYTE_ARRAY", type := (.object "com/example/quadvar/quadvar/model/VariantType"), accessFlags := 16409, slot := 29, constantValue := 0 }, { name := "PACKED_INT32_ARRAY", type := (.object "com/example/quadvar/quadvar/model/VariantType"), accessFlags := 16409, slot := 30, constantValue := 0 }, { name := "PACKED_INT64_ARRAY", type := (.object "com/example/quadvar/quadvar/model/VariantType"), accessFlags := 16409, slot := 31, constantValue := 0 }, { name := "PACKED_FLOAT32_ARRAY", type := (.object "com/example/quadvar/quadvar/model/VariantType"), accessFlags := 16409, slot := 32, constantValue := 0 }, { name := "PACKED_FLOAT64_ARRAY", type := (.object "com/example/quadvar/quadvar/model/VariantType"), accessFlags := 16409, slot := 33, constantValue := 0 }, { name := "PACKED_STRING_ARRAY", type := (.object "com/example/quadvar/quadvar/model/VariantType"), accessFlags := 16409, slot := 34, constantValue := 0 }, { name := "PACKED_VECTOR2_ARRAY", type := (.object "com/example/quadvar/quadvar/model/VariantType"), accessFlags := 16409, slot := 35, constantValue := 0 }, { name := "PACKED_VECTOR3_ARRAY", type := (.object "com/example/quadvar/quadvar/model/VariantType"), accessFlags := 16409, slot := 36, constantValue := 0 }, { name := "PACKED_COLOR_ARRAY", type := (.object "com/example/quadvar/quadvar/model/VariantType"), accessFlags := 16409, slot := 37, constantValue := 0 }, { name := "PACKED_VECTOR4_ARRAY", type := (.object "com/example/quadvar/quadvar/model/VariantType"), accessFlags := 16409, slot := 38, constantValue := 0 }, { name := "BY_NAME", type := (.object "java/util/Map"), accessFlags := 26, slot := 39, constantValue := 0 }, { name := "typeName", type := (.object "java/lang/String"), accessFlags := 18, slot := 3, constantValue := 0 }, { name := "shape", type := (.object "com/example/quadvar/quadvar/model/VariantType$Shape"), accessFlags := 18, slot := 4, constantValue := 0 }, { name := "numbers", type := (.object "com/example/quadvar/quadvar/model/VariantType$Numbers"), accessFlags := 18, slot := 5, constantValue := 0 }, { name := "componentNames", type := (.object "java/util/List"), accessFlags := 18, slot := 6, constantValue := 0 }, { name := "$VALUES", type := (.array (.object "com/example/quadvar/quadvar/model/VariantType")), accessFlags := 4122, slot := 40, constantValue := 0 }]
  methods := #[k6m0]
  instanceTypes := #[(.object "java/lang/String"), .int, .int, (.object "java/lang/String"), (.object "com/example/quadvar/quadvar/model/VariantType$Shape"), (.object "com/example/quadvar/quadvar/model/VariantType$Numbers"), (.object "java/util/List")]
  staticTypes := #[(.object "com/example/quadvar/quadvar/model/VariantType"), (.object "com/example/quadvar/quadvar/model/VariantType"), (.object "com/example/quadvar/quadvar/model/VariantType"), (.object "com/example/quadvar/quadvar/model/VariantType"), (.object "com/example/quadvar/quadvar/model/VariantType"), (.object "com/example/quadvar/quadvar/model/VariantType"), (.object "com/example/quadvar/quadvar/model/VariantType"), (.object "com/example/quadvar/quadvar/model/VariantType"), (.object "com/example/quadvar/quadvar/model/VariantType"), (.object "com/example/quadvar/quadvar/model/VariantType"), (.object "com/example/quadvar/quadvar/model/VariantType"), (.object "com/example/quadvar/quadvar/model/VariantType"), (.object "com/example/quadvar/quadvar/model/VariantType"), (.object "com/example/quadvar/quadvar/model/VariantType"), (.object "com/example/quadvar/quadvar/model/VariantType"), (.object "com/example/quadvar/quadvar/model/VariantType"), (.object "com/example/quadvar/quadvar/model/VariantType"), (.object "com/example/quadvar/quadvar/model/VariantType"), (.object "com/example/quadvar/quadvar/model/VariantType"), (.object "com/example/quadvar/quadvar/model/VariantType"), (.object "com/example/quadvar/quadvar/model/VariantType"), (.object "com/example/quadvar/quadvar/model/VariantType"), (.object "com/example/quadvar/quadvar/model/VariantType"), (.object "com/example/quadvar/quadvar/model/VariantType"), (.object "com/example/quadvar/quadvar/model/VariantType"), (.object "com/example/quadvar/quadvar/model/VariantType"), (.object "com/example/quadvar/quadvar/model/VariantType"), (.object "com/example/quadvar/quadvar/model/VariantType"), (.object "com/example/quadvar/quadvar/model/VariantType"), (.object "com/example/quadvar/quadvar/model/VariantType"), (.object "com/example/quadvar/quadvar/model/VariantType"), (.object "com/example/quadvar/quadvar/model/VariantType"), (.object "com/example/quadvar/quadvar/model/VariantType"), (.object "com/example/quadvar/quadvar/model/VariantType"), (.object "com/example/quadvar/quadvar/model/VariantType"), (.object "com/example/quadvar/quadvar/model/VariantType"), (.object "com/example/quadvar/quadvar/model/VariantType"), (.object "com/example/quadvar/quadvar/model/VariantType"), (.object "com/example/quadvar/quadvar/model/VariantType"), (.object "java/util/Map"), (.array (.object "com/example/quadvar/quadvar/model/VariantType"))]
  resolved := Array.replicate 508 none
  statics := some 0 }

def pool7 : Array CpInfo := pool [(1, u "java/lang/Cloneable"), (0, .class_ 1), (0, u "java/lang/Object"), (0, .class_ 3)] 3

/-- java/lang/Cloneable -/
def k7 : Class := { plain "java/lang/Cloneable" (some 0) with
  accessFlags := 1537
  interfaces := #[]
  cf := some (fileOf pool7 2 #[] #[] 1537 4 #[] #[])
  fields := #[]
  methods := #[]
  instanceTypes := #[]
  staticTypes := #[]
  resolved := Array.replicate 8 none
  statics := none }

/-- the primitive byte -/
def k8 : Class := { plain "byte" none with kind := .primitive 'B', accessFlags := 0x411 }
/-- [B -/
def k9 : Class := { plain "[B" (some 0) with kind := .array 8 .byte, interfaces := #[7, 4], accessFlags := 1041 }

/-- the primitive int -/
def k10 : Class := { plain "int" none with kind := .primitive 'I', accessFlags := 0x411 }
/-- [I -/
def k11 : Class := { plain "[I" (some 0) with kind := .array 10 .int, interfaces := #[7, 4], accessFlags := 1041 }

/-- [Lcom/example/quadvar/quadvar/model/VariantType; -/
def k12 : Class := { plain "[Lcom/example/quadvar/quadvar/model/VariantType;" (some 0) with kind := .array 6 (.object "com/example/quadvar/quadvar/model/VariantType"), interfaces := #[7, 4], accessFlags := 1041 }

def heap : Heap := #[{ cls := 6, slots := #[.ref 1, .ref 2, .ref 3, .ref 4, .ref 5, .ref 6, .ref 7, .ref 8, .ref 9, .ref 10, .ref 11, .ref 12, .ref 13, .ref 14, .ref 15, .ref 16, .ref 17, .ref 18, .ref 19, .ref 20, .ref 21, .ref 22, .ref 23, .ref 24, .ref 25, .ref 26, .ref 27, .ref 28, .ref 29, .ref 30, .ref 31, .ref 32, .ref 33, .ref 34, .ref 35, .ref 36, .ref 37, .ref 38, .ref 39, .null, .null], vm := .statics 6 },
  { cls := 6, slots := #[.null, .int 0, .int 0, .null, .null, .null, .null], vm := .none },
  { cls := 6, slots := #[.null, .int 1, .int 0, .null, .null, .null, .null], vm := .none },
  { cls := 6, slots := #[.null, .int 2, .int 0, .null, .null, .null, .null], vm := .none },
  { cls := 6, slots := #[.null, .int 3, .int 0, .null, .null, .null, .null], vm := .none },
  { cls := 6, slots := #[.null, .int 4, .int 0, .null, .null, .null, .null], vm := .none },
  { cls := 6, slots := #[.null, .int 5, .int 0, .null, .null, .null, .null], vm := .none },
  { cls := 6, slots := #[.null, .int 6, .int 0, .null, .null, .null, .null], vm := .none },
  { cls := 6, slots := #[.null, .int 7, .int 0, .null, .null, .null, .null], vm := .none },
  { cls := 6, slots := #[.null, .int 8, .int 0, .null, .null, .null, .null], vm := .none },
  { cls := 6, slots := #[.null, .int 9, .int 0, .null, .null, .null, .null], vm := .none },
  { cls := 6, slots := #[.null, .int 10, .int 0, .null, .null, .null, .null], vm := .none },
  { cls := 6, slots := #[.null, .int 11, .int 0, .null, .null, .null, .null], vm := .none },
  { cls := 6, slots := #[.null, .int 12, .int 0, .null, .null, .null, .null], vm := .none },
  { cls := 6, slots := #[.null, .int 13, .int 0, .null, .null, .null, .null], vm := .none },
  { cls := 6, slots := #[.null, .int 14, .int 0, .null, .null, .null, .null], vm := .none },
  { cls := 6, slots := #[.null, .int 15, .int 0, .null, .null, .null, .null], vm := .none },
  { cls := 6, slots := #[.null, .int 16, .int 0, .null, .null, .null, .null], vm := .none },
  { cls := 6, slots := #[.null, .int 17, .int 0, .null, .null, .null, .null], vm := .none },
  { cls := 6, slots := #[.null, .int 18, .int 0, .null, .null, .null, .null], vm := .none },
  { cls := 6, slots := #[.null, .int 19, .int 0, .null, .null, .null, .null], vm := .none },
  { cls := 6, slots := #[.null, .int 20, .int 0, .null, .null, .null, .null], vm := .none },
  { cls := 6, slots := #[.null, .int 21, .int 0, .null, .null, .null, .null], vm := .none },
  { cls := 6, slots := #[.null, .int 22, .int 0, .null, .null, .null, .null], vm := .none },
  { cls := 6, slots := #[.null, .int 23, .int 0, .null, .null, .null, .null], vm := .none },
  { cls := 6, slots := #[.null, .int 24, .int 0, .null, .null, .null, .null], vm := .none },
  { cls := 6, slots := #[.null, .int 25, .int 0, .null, .null, .null, .null], vm := .none },
  { cls := 6, slots := #[.null, .int 26, .int 0, .null, .null, .null, .null], vm := .none },
  { cls := 6, slots := #[.null, .int 27, .int 0, .null, .null, .null, .null], vm := .none },
  { cls := 6, slots := #[.null, .int 28, .int 0, .null, .null, .null, .null], vm := .none },
  { cls := 6, slots := #[.null, .int 29, .int 0, .null, .null, .null, .null], vm := .none },
  { cls := 6, slots := #[.null, .int 30, .int 0, .null, .null, .null, .null], vm := .none },
  { cls := 6, slots := #[.null, .int 31, .int 0, .null, .null, .null, .null], vm := .none },
  { cls := 6, slots := #[.null, .int 32, .int 0, .null, .null, .null, .null], vm := .none },
  { cls := 6, slots := #[.null, .int 33, .int 0, .null, .null, .null, .null], vm := .none },
  { cls := 6, slots := #[.null, .int 34, .int 0, .null, .null, .null, .null], vm := .none },
  { cls := 6, slots := #[.null, .int 35, .int 0, .null, .null, .null, .null], vm := .none },
  { cls := 6, slots := #[.null, .int 36, .int 0, .null, .null, .null, .null], vm := .none },
  { cls := 6, slots := #[.null, .int 37, .int 0, .null, .null, .null, .null], vm := .none },
  { cls := 6, slots := #[.null, .int 38, .int 0, .null, .null, .null, .null], vm := .none }]
def classes : Array Class := #[k0, k1, k2, k3, k4, k5, k6, k7, k8, k9, k10, k11, k12]
def interned : List (Array UInt16 × Addr) := []
def slotsUsed : Nat := 314
def theMethod : MethodId := ⟨1, 1⟩
def args0 : Array Value := #[.int 5]
def aboutOver (below : List Frame) : State where
  vm := { classes := classes, interned := interned.toArray }
  heap := heap
  slotsUsed := slotsUsed
  threads := #[{ frames := .invoking theMethod args0 :: below }]
def below0 : List Frame := [.native { method := ⟨0, 0⟩, args := #[] }]
def about1 : State := aboutOver below0
def p0 : Program := .bare "" "" ""
def e0 : Env := launch0.env 0 0 0
theorem w_frames : about1.frames = Frame.invoking theMethod args0 :: below0 := rfl
set_option maxRecDepth 65536 in
theorem w_args : argsFit about1.vm theMethod args0 = true := by decide +kernel
set_option maxRecDepth 65536 in
theorem w_heap : heapFits about1 = true := by decide +kernel
set_option maxRecDepth 65536 in
theorem w_runnable : about1.curStatus? = some .runnable := by decide +kernel
set_option maxRecDepth 65536 in
theorem w_alone : about1.alone = true := by decide +kernel
set_option maxRecDepth 65536 in
theorem w_named : about1.methodNamed? x = some theMethod := by decide +kernel
set_option maxRecDepth 65536 in
theorem w_hears : about1.hears theMethod below0 = true := by decide +kernel
set_option maxRecDepth 65536 in
theorem w_ripe : about1.ripe theMethod args0 below0 = true := by decide +kernel
theorem w_running : about1.status = .running := rfl
set_option maxRecDepth 65536 in
theorem w_room : about1.hasRoom e0.platform room_1 = true :=
  launch0.hasRoom_least _ room_1 (by decide +kernel) (by decide +kernel) (by decide +kernel) (by decide +kernel) (by decide +kernel) (by decide +kernel)
theorem allAtoms_all (ts : List Jvm.Cond) (a : Array Jvm.Value) (st : Jvm.State) : (allAtoms ts).before a st = ts.all (fun c => c.before a st) := by
  induction ts with
  | nil => rfl
  | cons c t ih =>
    show (Jvm.Cond.and c (allAtoms t)).before a st = _
    rw [Jvm.Cond.before_and, ih, List.all_cons]
def words1 : List Jvm.Cond := Jvm.Cond.code x code maxLocals ret :: tables_1
/-- a 'code' word, met by the world's own term for the bytes: nothing is compared byte by byte -/
theorem code_word {y : MethodName} {bytes : ByteArray} {mx : Nat} {rt : Option FieldType} {a : Array Value} {s : State} {m : MethodId} {meth : Method} {c : Code} (h1 : s.methodNamed? y = some m) (h2 : s.vm.method? m = some meth) (h3 : meth.code = some c) (h4 : c.code = bytes)
    (h5 : (c.maxLocals == mx && c.exceptionTable.isEmpty && decide (c.maxStack ≤ mostOperands) && decide (meth.sig.returnType = rt) && !meth.locks && decide (parseMethodDescriptor y.desc = some meth.sig)) = true) : (Jvm.Cond.code y bytes mx rt).before a s = true := by
  simp only [Bool.and_eq_true, beq_iff_eq, Bool.not_eq_true', decide_eq_true_eq] at h5
  obtain ⟨⟨⟨⟨⟨g1, g2⟩, g3⟩, g4⟩, g5⟩, g6⟩ := h5
  simp [Cond.before, Cond.holds, Cond.value, h1, h2, h3, h4, g1, g2, g3, g4, g5, g6]
def isCode : Jvm.Cond → Bool
  | .code _ _ _ _ => true
  | _ => false
theorem all_split {L : List Jvm.Cond} {P : Jvm.Cond → Bool} (h1 : L.all (fun c => isCode c || P c) = true) (h2 : ∀ c ∈ L.filter isCode, P c = true) : L.all P = true := by
  refine List.all_eq_true.mpr fun c hc => ?_
  have h := List.all_eq_true.mp h1 c hc
  rcases Bool.eq_false_or_eq_true (isCode c) with hi | hi
  · exact h2 c (List.mem_filter.mpr ⟨hc, hi⟩)
  · simpa [hi] using h
set_option maxRecDepth 65536 in
theorem w_c0 : (Jvm.Cond.code x code maxLocals ret).before args0 about1 = true := code_word (m := ⟨1, 1⟩) (meth := k1m1) (c := k1c1) (by decide +kernel) rfl rfl rfl (by decide +kernel)
set_option maxRecDepth 65536 in
theorem w_c1 : (Jvm.Cond.code ({ cls := "com/example/quadvar/quadvar/model/VariantType", name := "isContainer", desc := "()Z" } : Jvm.MethodName) prog_61_method_8_code (1 : Nat) (Option.some Jvm.ClassFile.FieldType.boolean)).before args0 about1 = true := code_word (m := ⟨6, 0⟩) (meth := k6m0) (c := k6c0) (by decide +kernel) rfl rfl rfl (by decide +kernel)
def codes1 : List Jvm.Cond := [Jvm.Cond.code x code maxLocals ret, Jvm.Cond.code ({ cls := "com/example/quadvar/quadvar/model/VariantType", name := "isContainer", desc := "()Z" } : Jvm.MethodName) prog_61_method_8_code (1 : Nat) (Option.some Jvm.ClassFile.FieldType.boolean)]
set_option maxRecDepth 65536 in
theorem codes_eq : words1.filter isCode = codes1 := rfl
theorem w_codes : ∀ c ∈ words1.filter isCode, c.before args0 about1 = true := by
  rw [codes_eq]
  intro c hc
  simp only [codes1, List.mem_cons, List.not_mem_nil, or_false] at hc
  rcases hc with rfl | rfl
  · exact w_c0
  · exact w_c1
set_option maxRecDepth 65536 in
theorem w_t1 : (words1.take 24).all (fun c => isCode c || c.before args0 about1) = true := by decide +kernel
set_option maxRecDepth 65536 in
theorem w_t2 : ((words1.drop 24).take 24).all (fun c => isCode c || c.before args0 about1) = true := by decide +kernel
set_option maxRecDepth 65536 in
theorem w_t3 : (((words1.drop 24).drop 24).take 24).all (fun c => isCode c || c.before args0 about1) = true := by decide +kernel
set_option maxRecDepth 65536 in
theorem w_t4 : (((words1.drop 24).drop 24).drop 24).all (fun c => isCode c || c.before args0 about1) = true := by decide +kernel
theorem w_tables : (allAtoms (Jvm.Cond.code x code maxLocals ret :: tables_1)).before args0 about1 = true := by
  rw [allAtoms_all]
  show words1.all (fun c => c.before args0 about1) = true
  refine all_split ?_ w_codes
  rw [← List.take_append_drop 24 words1, List.all_append, w_t1, ← List.take_append_drop 24 (words1.drop 24), List.all_append, w_t2, ← List.take_append_drop 24 ((words1.drop 24).drop 24), List.all_append, w_t3, w_t4]
  rfl
set_option maxRecDepth 65536 in
theorem w_case : (Jvm.Cond.and given_1 narrow_1).before args0 about1 = true := by decide +kernel
theorem w_applies : (headSpec (Jvm.Cond.code x code maxLocals ret :: tables_1) room_1).applies x e0.platform about1 = true :=
  (Spec.applies_iff w_frames).mpr ⟨w_running, w_runnable, w_alone, w_named, w_hears, w_ripe, w_room, w_tables⟩
theorem atStart : AtStart classFile x code maxLocals ret World_1 tables_1 room_1 Calls_1 rest_1 Pre_1 launch0 p0 e0 about1 theMethod args0 below0 :=
  ⟨lists_1, trivial, launch0.admits_env _ _ _, launch0.least_env, fairChoices_fair.cas, fairChoices_fair.clock, w_frames, w_args, w_heap, w_applies, trivial, trivial, w_case⟩
end start1
theorem witness_1 : WitnessClaimed_1 := ⟨start1.p0, start1.e0, start1.about1, start1.theMethod, start1.args0, start1.below0, start1.atStart⟩
end Jvm.Pilot.@@N@@
