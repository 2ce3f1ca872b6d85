import JvmDerived
import JvmDerived.Pilot.@@N@@Statement
import JvmDerived.Pilot.@@N@@Code
set_option linter.unusedVariables false
set_option linter.unusedSimpArgs false
namespace Jvm.RoadKit
open Sem ClassFile Op Lib Jvm.Stand Jvm.Free Jvm.LawKit
section New
variable {p : Program} {l : Launch} {e : Env} {R : Room} {s : State} {m : MethodId} {args : Array Value} {below : List Frame} {meth : Method} {c : Code} {T : State} {locs : List Loc} {cells slots : Nat}
theorem retI (X : Stand p l e R s m args below meth c T locs cells slots) (hx : p.tables.exec = Jvm.exec) {pc : Nat} {Ls : Array Slot} {z : Int32} {rest : List Value} (hret : meth.sig.returnType = some .int) (hd : decode c.code pc = .ok (.ireturn, 1)) {fs : List Frame}
    (hl : ∀ (f : JFrame) (acts : List Action), f.method = m → f.locked = none → f.entered = [] → (doReturn e (T.setTop f) acts (some (.int z))).1 = T.setFrames fs) : Steps p.tables e below (T.setTop (mkF m pc Ls (.int z :: rest))) (T.setFrames fs) := by
  have hm' : T.vm.method? m = some meth := X.method'
  have hn : narrow .int (.int z) = .int z := rfl
  show Steps p.tables e below (T.setTop { method := m, pc := pc, locals := Ls, stack := _ :: rest, locked := none }) _
  jvm_step X.here [X.here.top, hx, hd, hm', hret, hn]
  first | (intro acts; rw [hl _ acts rfl rfl rfl]) | rw [hl _ _ rfl rfl rfl]
  exact Steps.refl _
end New
end Jvm.RoadKit

namespace Jvm.Pilot.@@N@@
open Jvm Jvm.ClassFile Sem Op Lib Jvm.Free Jvm.Stand Jvm.LawKit Jvm.RoadKit Bundle Jvm.Pilot.@@N@@.Jvm.D
theorem own_fi {t : Term} {a : Addr} {C n d : String} {k : Int32} {args : Array Value} {s : State} (ev : t.eval args s none [] s = some (.ref a)) (h : (Jvm.Cond.eq (.field t C n d) (.int k)).value args s none s [] = some true) : s.fieldOf? a C n d = some (.int k) := by
  obtain ⟨x, y, hx, hy, k1, k2⟩ := cmp_v (Or.inl h)
  have hy' : y = .int k := (Option.some.inj (hy.symm.trans (Term.int_eval k)))
  subst hy'
  cases x with
  | int z =>
    have e : (Jvm.Cond.eq (.field t C n d) (.int k)).value args s none s [] = some (decide (z = k)) := by simp [Cond.value, hx, hy]
    have := gotT e h
    subst this
    rw [← fld_at ev]; exact hx
  | _ => simp [Kin] at k1 k2
theorem own_fn {t : Term} {a : Addr} {C n d : String} {args : Array Value} {s : State} (ev : t.eval args s none [] s = some (.ref a)) (h : (Jvm.Cond.eq (.field t C n d) .null).value args s none s [] = some true) : s.fieldOf? a C n d = some .null := by
  have := null_v h
  rw [fld_at ev] at this; exact this
theorem own_fr {t u : Term} {a b : Addr} {C n d : String} {args : Array Value} {s : State} (ev : t.eval args s none [] s = some (.ref a)) (ev2 : u.eval args s none [] s = some (.ref b)) (h : (Jvm.Cond.eq (.field t C n d) u).value args s none s [] = some true) : s.fieldOf? a C n d = some (.ref b) := by
  obtain ⟨x, y, hx, hy, k1, k2⟩ := cmp_v (Or.inl h)
  have hy' : y = .ref b := (Option.some.inj (hy.symm.trans ev2))
  subst hy'
  have hr : x.isRef = true := by cases x <;> simp [Kin, Value.isRef] at k1 k2 ⊢
  have e := eq_R (args := args) (first := s) (o := none) (s := s) (idx := []) hx hy hr rfl
  have := gotT e h
  subst this
  rw [← fld_at ev]; exact hx
def own_ty (el : Nat → Addr) (k : Int32) : Value := if k = (0 : Int32) then .ref (el 0) else (if k = (1 : Int32) then .ref (el 1) else (if k = (2 : Int32) then .ref (el 2) else (if k = (3 : Int32) then .ref (el 3) else (if k = (4 : Int32) then .ref (el 4) else (if k = (5 : Int32) then .ref (el 5) else (if k = (6 : Int32) then .ref (el 6) else (if k = (7 : Int32) then .ref (el 7) else (if k = (8 : Int32) then .ref (el 8) else (if k = (9 : Int32) then .ref (el 9) else (.null))))))))))
def own_l1 (c : Addr) (u : Value) : Int32 := if ((.ref c) : Value) = u then 1 else 0
def own_l2 (c d : Addr) (u : Value) : Int32 := if ((.ref c) : Value) = u then 1 else (if ((.ref d) : Value) = u then 1 else 0)
theorem own_rem (b m : Int32) (d : Int) (hm : m.toInt = d) (h0 : 0 < d) : 0 ≤ ((b &&& (2147483647 : Int32)) % m).toInt ∧ ((b &&& (2147483647 : Int32)) % m).toInt < d := by
  have h1 := c_mask b 2147483647 31 (by decide) (by decide)
  have h2 := (c_irem (b &&& 2147483647) m d hm).1 (by omega)
  rw [h2]
  exact ⟨Int.emod_nonneg _ (by omega), Int.emod_lt_of_pos _ h0⟩
theorem own_vals (k : Int32) (h : 0 ≤ k.toInt ∧ k.toInt < 11) : k = (0 : Int32) ∨ k = (1 : Int32) ∨ k = (2 : Int32) ∨ k = (3 : Int32) ∨ k = (4 : Int32) ∨ k = (5 : Int32) ∨ k = (6 : Int32) ∨ k = (7 : Int32) ∨ k = (8 : Int32) ∨ k = (9 : Int32) ∨ k = (10 : Int32) := by
  simp only [← Int32.toInt_inj]
  have z : (0 : Int32).toInt = 0 ∧ (1 : Int32).toInt = 1 ∧ (2 : Int32).toInt = 2 ∧ (3 : Int32).toInt = 3 ∧ (4 : Int32).toInt = 4 ∧ (5 : Int32).toInt = 5 ∧ (6 : Int32).toInt = 6 ∧ (7 : Int32).toInt = 7 ∧ (8 : Int32).toInt = 8 ∧ (9 : Int32).toInt = 9 ∧ (10 : Int32).toInt = 10 := by decide
  omega
theorem own_tyr (el : Nat → Addr) (k : Int32) (h : 0 ≤ k.toInt ∧ k.toInt < 11) : (∃ j : Nat, j < 10 ∧ k.toInt = j ∧ own_ty el k = .ref (el j)) ∨ (k.toInt = 10 ∧ own_ty el k = .null) := by
  rcases own_vals k h with rfl | rfl | rfl | rfl | rfl | rfl | rfl | rfl | rfl | rfl | rfl
  · exact Or.inl ⟨0, by decide, by decide, rfl⟩
  · exact Or.inl ⟨1, by decide, by decide, rfl⟩
  · exact Or.inl ⟨2, by decide, by decide, rfl⟩
  · exact Or.inl ⟨3, by decide, by decide, rfl⟩
  · exact Or.inl ⟨4, by decide, by decide, rfl⟩
  · exact Or.inl ⟨5, by decide, by decide, rfl⟩
  · exact Or.inl ⟨6, by decide, by decide, rfl⟩
  · exact Or.inl ⟨7, by decide, by decide, rfl⟩
  · exact Or.inl ⟨8, by decide, by decide, rfl⟩
  · exact Or.inl ⟨9, by decide, by decide, rfl⟩
  · exact Or.inr ⟨by decide, rfl⟩
theorem own_isref (el : Nat → Addr) (k : Int32) (h : 0 ≤ k.toInt ∧ k.toInt < 11) : (own_ty el k).isRef = true := by
  rcases own_tyr el k h with ⟨j, -, -, e⟩ | ⟨-, e⟩ <;> rw [e] <;> rfl
theorem own_eq (el : Nat → Addr) (hinj : ∀ j k, j < 10 → k < 10 → el j = el k → j = k) (k : Int32) (h : 0 ≤ k.toInt ∧ k.toInt < 11) (j : Nat) (hj : j < 10) : ((.ref (el j)) : Value) = own_ty el k ↔ k.toInt = j := by
  rcases own_tyr el k h with ⟨i, hi, e1, e⟩ | ⟨e1, e⟩
  · rw [e, e1]
    constructor
    · intro q; have := hinj _ _ hj hi (Value.ref.inj q); omega
    · intro q; have : i = j := by omega
      rw [this]
  · rw [e]
    constructor
    · intro q; cases q
    · intro q; omega
theorem own_cases (el : Nat → Addr) (k : Int32) (h : 0 ≤ k.toInt ∧ k.toInt < 10) : (∃ j : Nat, (j = 0 ∨ j = 9) ∧ k.toInt = j ∧ own_ty el k = .ref (el j)) ∨ (∃ j : Nat, (1 ≤ j ∧ j ≤ 8 ∧ j ≠ 2) ∧ k.toInt = j ∧ own_ty el k = .ref (el j)) ∨ (k.toInt = 2 ∧ own_ty el k = .ref (el 2)) := by
  rcases own_tyr el k (by omega) with ⟨j, hj, e1, e⟩ | ⟨e1, e⟩
  · by_cases c2 : j = 2
    · subst c2; exact Or.inr (Or.inr ⟨e1, e⟩)
    · by_cases c0 : j = 0 ∨ j = 9
      · exact Or.inl ⟨j, c0, e1, e⟩
      · exact Or.inr (Or.inl ⟨j, by omega, e1, e⟩)
  · omega
theorem own_exp (i o e : Int32) (hi : 0 ≤ i.toInt ∧ i.toInt < 10) (ho : 0 ≤ o.toInt ∧ o.toInt < 11)
    (he : ((o = (0 : Int32)) ∧ (i < (1 : Int32)) ∧ (o = (1 : Int32)) ∧ (i = (2 : Int32)) ∧ e = (1 : Int32)) ∨ ((o = (0 : Int32)) ∧ (i < (1 : Int32)) ∧ (o = (1 : Int32)) ∧ (¬ (i = (2 : Int32))) ∧ e = (0 : Int32)) ∨ ((o = (0 : Int32)) ∧ (i < (1 : Int32)) ∧ (¬ (o = (1 : Int32))) ∧ e = (0 : Int32)) ∨ ((o = (0 : Int32)) ∧ (¬ (i < (1 : Int32))) ∧ ((8 : Int32) < i) ∧ (o = (1 : Int32)) ∧ (i = (2 : Int32)) ∧ e = (1 : Int32)) ∨ ((o = (0 : Int32)) ∧ (¬ (i < (1 : Int32))) ∧ ((8 : Int32) < i) ∧ (o = (1 : Int32)) ∧ (¬ (i = (2 : Int32))) ∧ e = (0 : Int32)) ∨ ((o = (0 : Int32)) ∧ (¬ (i < (1 : Int32))) ∧ ((8 : Int32) < i) ∧ (¬ (o = (1 : Int32))) ∧ e = (0 : Int32)) ∨ ((o = (0 : Int32)) ∧ (¬ (i < (1 : Int32))) ∧ (¬ ((8 : Int32) < i)) ∧ e = (1 : Int32)) ∨ ((¬ (o = (0 : Int32))) ∧ (o = (1 : Int32)) ∧ (i = (2 : Int32)) ∧ e = (1 : Int32)) ∨ ((¬ (o = (0 : Int32))) ∧ (o = (1 : Int32)) ∧ (¬ (i = (2 : Int32))) ∧ e = (0 : Int32)) ∨ ((¬ (o = (0 : Int32))) ∧ (¬ (o = (1 : Int32))) ∧ e = (0 : Int32))) :
    e = if (o.toInt = 0 ∧ 1 ≤ i.toInt ∧ i.toInt ≤ 8) ∨ (o.toInt = 1 ∧ i.toInt = 2) then 1 else 0 := by
  simp only [Int32.lt_iff_toInt_lt] at he
  rw [show (o = (0 : Int32)) = (o.toInt = (0 : Int32).toInt) from propext Int32.toInt_inj.symm, show (o = (1 : Int32)) = (o.toInt = (1 : Int32).toInt) from propext Int32.toInt_inj.symm, show (i = (2 : Int32)) = (i.toInt = (2 : Int32).toInt) from propext Int32.toInt_inj.symm] at he
  have z : (0 : Int32).toInt = 0 ∧ (1 : Int32).toInt = 1 ∧ (2 : Int32).toInt = 2 ∧ (8 : Int32).toInt = 8 := by decide
  rw [z.1, z.2.1, z.2.2.1, z.2.2.2] at he
  by_cases c : (o.toInt = 0 ∧ 1 ≤ i.toInt ∧ i.toInt ≤ 8) ∨ (o.toInt = 1 ∧ i.toInt = 2)
  · rw [if_pos c]
    rcases he with ⟨c0, c1, c2, c3, rfl⟩ | ⟨c0, c1, c2, c3, rfl⟩ | ⟨c0, c1, c2, rfl⟩ | ⟨c0, c1, c2, c3, c4, rfl⟩ | ⟨c0, c1, c2, c3, c4, rfl⟩ | ⟨c0, c1, c2, c3, rfl⟩ | ⟨c0, c1, c2, rfl⟩ | ⟨c0, c1, c2, rfl⟩ | ⟨c0, c1, c2, rfl⟩ | ⟨c0, c1, rfl⟩ <;> first | rfl | omega
  · rw [if_neg c]
    rcases he with ⟨c0, c1, c2, c3, rfl⟩ | ⟨c0, c1, c2, c3, rfl⟩ | ⟨c0, c1, c2, rfl⟩ | ⟨c0, c1, c2, c3, c4, rfl⟩ | ⟨c0, c1, c2, c3, c4, rfl⟩ | ⟨c0, c1, c2, c3, rfl⟩ | ⟨c0, c1, c2, rfl⟩ | ⟨c0, c1, c2, rfl⟩ | ⟨c0, c1, c2, rfl⟩ | ⟨c0, c1, rfl⟩ <;> first | rfl | omega
theorem pn0 : plainName "com/example/subject/subject/model/EntityTypeLivesInPinLaw" = true := by first | (simp [plainName, overriddenIn]; done) | decide +kernel
theorem d1_0 : decode method_2_code 0 = .ok (.iload_n 0, 1) := by decide +kernel
theorem d1_1 : decode method_2_code 1 = .ok (.ifCond .ne 7, 3) := by decide +kernel
theorem d1_4 : decode method_2_code 4 = .ok (.getstatic 7, 3) := by decide +kernel
theorem d1_7 : decode method_2_code 7 = .ok (.areturn, 1) := by decide +kernel
theorem d1_8 : decode method_2_code 8 = .ok (.iload_n 0, 1) := by decide +kernel
theorem d1_9 : decode method_2_code 9 = .ok (.iconst 1, 1) := by decide +kernel
theorem d1_10 : decode method_2_code 10 = .ok (.if_icmp .ne 7, 3) := by decide +kernel
theorem d1_13 : decode method_2_code 13 = .ok (.getstatic 13, 3) := by decide +kernel
theorem d1_16 : decode method_2_code 16 = .ok (.areturn, 1) := by decide +kernel
theorem d1_17 : decode method_2_code 17 = .ok (.iload_n 0, 1) := by decide +kernel
theorem d1_18 : decode method_2_code 18 = .ok (.iconst 2, 1) := by decide +kernel
theorem d1_19 : decode method_2_code 19 = .ok (.if_icmp .ne 7, 3) := by decide +kernel
theorem d1_22 : decode method_2_code 22 = .ok (.getstatic 16, 3) := by decide +kernel
theorem d1_25 : decode method_2_code 25 = .ok (.areturn, 1) := by decide +kernel
theorem d1_26 : decode method_2_code 26 = .ok (.iload_n 0, 1) := by decide +kernel
theorem d1_27 : decode method_2_code 27 = .ok (.iconst 3, 1) := by decide +kernel
theorem d1_28 : decode method_2_code 28 = .ok (.if_icmp .ne 7, 3) := by decide +kernel
theorem d1_31 : decode method_2_code 31 = .ok (.getstatic 19, 3) := by decide +kernel
theorem d1_34 : decode method_2_code 34 = .ok (.areturn, 1) := by decide +kernel
theorem d1_35 : decode method_2_code 35 = .ok (.iload_n 0, 1) := by decide +kernel
theorem d1_36 : decode method_2_code 36 = .ok (.iconst 4, 1) := by decide +kernel
theorem d1_37 : decode method_2_code 37 = .ok (.if_icmp .ne 7, 3) := by decide +kernel
theorem d1_40 : decode method_2_code 40 = .ok (.getstatic 22, 3) := by decide +kernel
theorem d1_43 : decode method_2_code 43 = .ok (.areturn, 1) := by decide +kernel
theorem d1_44 : decode method_2_code 44 = .ok (.iload_n 0, 1) := by decide +kernel
theorem d1_45 : decode method_2_code 45 = .ok (.iconst 5, 1) := by decide +kernel
theorem d1_46 : decode method_2_code 46 = .ok (.if_icmp .ne 7, 3) := by decide +kernel
theorem d1_49 : decode method_2_code 49 = .ok (.getstatic 25, 3) := by decide +kernel
theorem d1_52 : decode method_2_code 52 = .ok (.areturn, 1) := by decide +kernel
theorem d1_53 : decode method_2_code 53 = .ok (.iload_n 0, 1) := by decide +kernel
theorem d1_54 : decode method_2_code 54 = .ok (.bipush 6, 2) := by decide +kernel
theorem d1_56 : decode method_2_code 56 = .ok (.if_icmp .ne 7, 3) := by decide +kernel
theorem d1_59 : decode method_2_code 59 = .ok (.getstatic 28, 3) := by decide +kernel
theorem d1_62 : decode method_2_code 62 = .ok (.areturn, 1) := by decide +kernel
theorem d1_63 : decode method_2_code 63 = .ok (.iload_n 0, 1) := by decide +kernel
theorem d1_64 : decode method_2_code 64 = .ok (.bipush 7, 2) := by decide +kernel
theorem d1_66 : decode method_2_code 66 = .ok (.if_icmp .ne 7, 3) := by decide +kernel
theorem d1_69 : decode method_2_code 69 = .ok (.getstatic 31, 3) := by decide +kernel
theorem d1_72 : decode method_2_code 72 = .ok (.areturn, 1) := by decide +kernel
theorem d1_73 : decode method_2_code 73 = .ok (.iload_n 0, 1) := by decide +kernel
theorem d1_74 : decode method_2_code 74 = .ok (.bipush 8, 2) := by decide +kernel
theorem d1_76 : decode method_2_code 76 = .ok (.if_icmp .ne 7, 3) := by decide +kernel
theorem d1_79 : decode method_2_code 79 = .ok (.getstatic 34, 3) := by decide +kernel
theorem d1_82 : decode method_2_code 82 = .ok (.areturn, 1) := by decide +kernel
theorem d1_83 : decode method_2_code 83 = .ok (.iload_n 0, 1) := by decide +kernel
theorem d1_84 : decode method_2_code 84 = .ok (.bipush 9, 2) := by decide +kernel
theorem d1_86 : decode method_2_code 86 = .ok (.if_icmp .ne 7, 3) := by decide +kernel
theorem d1_89 : decode method_2_code 89 = .ok (.getstatic 37, 3) := by decide +kernel
theorem d1_92 : decode method_2_code 92 = .ok (.areturn, 1) := by decide +kernel
theorem d1_93 : decode method_2_code 93 = .ok (.aconst_null, 1) := by decide +kernel
theorem d1_94 : decode method_2_code 94 = .ok (.areturn, 1) := by decide +kernel
theorem ef_1 (m : MethodId) (x0 : Int32) : entryFrame m #[(.int x0)] 1 = mkF m 0 #[.val (.int x0)] [] := by first | (simp [entryFrame, mkF, argsToLocals, Value.category]; done) | rfl
def Q1 (Z : State) (p0 : Int32) (el : Nat → Addr) (h0 : Heap) (n0 : Nat) (v : Option Value) (h : Heap) (L : List Loc) : Prop := v = some (own_ty el p0) ∧ Fr n0 L ∧ h = h0
set_option maxRecDepth 65536 in
set_option maxHeartbeats 40000000 in
theorem rm1 (l : Launch) (Z : State) (a0 : Array Value) (hw : ∀ d ∈ tables_1, d.before a0 Z = true) (ws : List Jvm.Cond) (p0 : Int32) (el : Nat → Addr) (h0 : Heap) (n0 : Nat) (Z0 : n0 ≤ h0.size) (O0 : Old Z n0 h0) (S_NAMESPACE : Sta Z Z.heap "com/example/subject/subject/model/EntityType" "NAMESPACE" "Lcom/example/subject/subject/model/EntityType;" (.ref (el 0))) (S_APPLICATION : Sta Z Z.heap "com/example/subject/subject/model/EntityType" "APPLICATION" "Lcom/example/subject/subject/model/EntityType;" (.ref (el 1))) (S_PROGRAM : Sta Z Z.heap "com/example/subject/subject/model/EntityType" "PROGRAM" "Lcom/example/subject/subject/model/EntityType;" (.ref (el 2))) (S_DATASET : Sta Z Z.heap "com/example/subject/subject/model/EntityType" "DATASET" "Lcom/example/subject/subject/model/EntityType;" (.ref (el 3))) (S_STREAM : Sta Z Z.heap "com/example/subject/subject/model/EntityType" "STREAM" "Lcom/example/subject/subject/model/EntityType;" (.ref (el 4))) (S_ARTIFACT : Sta Z Z.heap "com/example/subject/subject/model/EntityType" "ARTIFACT" "Lcom/example/subject/subject/model/EntityType;" (.ref (el 5))) (S_DATASET_TYPE : Sta Z Z.heap "com/example/subject/subject/model/EntityType" "DATASET_TYPE" "Lcom/example/subject/subject/model/EntityType;" (.ref (el 6))) (S_DATASET_MODULE : Sta Z Z.heap "com/example/subject/subject/model/EntityType" "DATASET_MODULE" "Lcom/example/subject/subject/model/EntityType;" (.ref (el 7))) (S_SECUREKEY : Sta Z Z.heap "com/example/subject/subject/model/EntityType" "SECUREKEY" "Lcom/example/subject/subject/model/EntityType;" (.ref (el 8))) (S_KERBEROSPRINCIPAL : Sta Z Z.heap "com/example/subject/subject/model/EntityType" "KERBEROSPRINCIPAL" "Lcom/example/subject/subject/model/EntityType;" (.ref (el 9))) :
    MetFree l (⟨"com/example/subject/subject/model/EntityTypeLivesInPinLaw", "type", "(I)Lcom/example/subject/subject/model/EntityType;"⟩ : MethodName) (head1 (Jvm.Cond.code (⟨"com/example/subject/subject/model/EntityTypeLivesInPinLaw", "type", "(I)Lcom/example/subject/subject/model/EntityType;"⟩ : MethodName) method_2_code 1 (some (.object "com/example/subject/subject/model/EntityType")) :: ws) ({ frames := 0, cells := 0, slots := 0, locals := 0 } : Room)) (fun a U => a = #[(.int p0)] ∧ Z.Warmed39 U.vm ∧ U.heap = h0) (fun _ _ _ _ _ => True) (fun _ U o U' => ∃ v L, o = .returned v ∧ Q1 Z p0 el h0 n0 v U'.heap L ∧ FrameEnd U o U' L ({ frames := 0, cells := 0, slots := 0, locals := 0 } : Room).cells ({ frames := 0, cells := 0, slots := 0, locals := 0 } : Room).slots) := by
  refine MetFree.of_bodySF (plainFor_of_name pn0) hisR ?_
  intro p e s m args below meth c s₁ Bd hml0 hP hK
  obtain ⟨rfl, hZ, hh⟩ := hP
  have hx := Bd.exec
  have hby := Bd.bytes
  have hml : c.maxLocals = 1 := hml0
  have hown : s.vm.findClass "com/example/subject/subject/model/EntityTypeLivesInPinLaw" = some m.cls := findClass_of_methodNamed Bd.named
  have hnm := (name_of_methodNamed Bd.named Bd.method).1
  have X0 : Stand p l e ({ frames := 0, cells := 0, slots := 0, locals := 0 } : Room) s m #[(.int p0)] below meth c s₁ [] 0 0 := Stand.of_body Bd
  have e0 : s₁.heap = h0 := by rw [← hh, Bd.state]; rfl
  have N0 := Fr.nil n0
  have pre0 : ∀ t, Steps p.tables e below (s₁.setTop (mkF m 0 #[iv p0] [])) t → Steps p.tables e below (s₁.setTop (entryFrame m #[(.int p0)] 1)) t := fun t k => castTop (ef_1 m p0) k
  have pre1 : ∀ t, Steps p.tables e below (s₁.setTop (mkF m 1 #[iv p0] [(.int p0)])) t → Steps p.tables e below (s₁.setTop (entryFrame m #[(.int p0)] 1)) t := by
    intro t kt
    refine pre0 _ ?_
    show Steps p.tables e below (s₁.setTop (mkF m 0 #[iv p0] [])) _
    refine XS.iloadN X0.here hx rfl (hb hby d1_0) rfl ?_
    exact kt
  by_cases hc1 : p0 = (0 : Int32)
  · have pre2 : ∀ t, Steps p.tables e below (s₁.setTop (mkF m 4 #[iv p0] [])) t → Steps p.tables e below (s₁.setTop (entryFrame m #[(.int p0)] 1)) t := by
      intro t kt
      refine pre1 _ ?_
      show Steps p.tables e below (s₁.setTop (mkF m 1 #[iv p0] [(.int p0)])) _
      refine XS.ifNo X0.here hx rfl (hb hby d1_1) rfl ((if0 _ _).trans (teq hc1).2) ?_
      exact kt
    obtain ⟨T3, X3, e3, st3⟩ := getS2 X0 hx hZ hown (host := "") (Or.inl (hw _ (List.mem_of_getElem? (i := 5) rfl))) Via.refl e0 (S_NAMESPACE.ext (O0.keep (Keep.refl h0 []) all0).2) (g := (mkF m 4 #[iv p0] [])) rfl (hb hby d1_4)
    have pre4 : ∀ t, Steps p.tables e below (T3.setTop (mkF m 7 #[iv p0] [(.ref (el 0))])) t → Steps p.tables e below (s₁.setTop (entryFrame m #[(.int p0)] 1)) t := by
      intro t kt
      refine pre2 _ ?_
      show Steps p.tables e below (s₁.setTop (mkF m 4 #[iv p0] [])) _
      refine st3 _ ?_
      exact kt
    obtain ⟨fs, hr, hrun, hended, hW, hsame⟩ := X3.leave (v := some (.ref (el 0))) (fun h => by rw [Bd.returns] at h; cases h)
    refine ⟨_, _, pre4 _ ?_, hrun, hended, _, _, rfl, ?_, ⟨_, rfl⟩, hW, hsame.mono (by decide) (by decide)⟩
    · show Steps p.tables e below (T3.setTop (mkF m 7 #[iv p0] [(.ref (el 0))])) _
      jvm_step X3.here [X3.here.top, hx, (hb hby d1_7), X3.method', Bd.returns, Value.isRef, FieldType.isReference]
      first | (intro acts; rw [hr _ acts rfl rfl rfl]) | rw [hr _ _ rfl rfl rfl]
      exact Steps.refl _
    · show Q1 Z p0 el h0 n0 _ T3.heap _
      rw [e3]
      exact ⟨congrArg some ((if_pos hc1).trans rfl).symm, N0, rfl⟩
  · have pre5 : ∀ t, Steps p.tables e below (s₁.setTop (mkF m 10 #[iv p0] [(.int (1 : Int32)), (.int p0)])) t → Steps p.tables e below (s₁.setTop (entryFrame m #[(.int p0)] 1)) t := by
      intro t kt
      refine pre1 _ ?_
      show Steps p.tables e below (s₁.setTop (mkF m 1 #[iv p0] [(.int p0)])) _
      refine XS.ifYes X0.here hx rfl (pc0 := 1) (pc' := 8) rfl (hb hby d1_1) rfl ((if0 _ _).trans (feq hc1).2) (by decide) (by decide) ?_
      show Steps p.tables e below (s₁.setTop (mkF m 8 #[iv p0] [])) _
      refine XS.iloadN X0.here hx rfl (hb hby d1_8) rfl ?_
      show Steps p.tables e below (s₁.setTop (mkF m 9 #[iv p0] [(.int p0)])) _
      refine XS.iconst X0.here hx rfl (hb hby d1_9) ?_
      exact kt
    by_cases hc10 : p0 = (1 : Int32)
    · have pre6 : ∀ t, Steps p.tables e below (s₁.setTop (mkF m 13 #[iv p0] [])) t → Steps p.tables e below (s₁.setTop (entryFrame m #[(.int p0)] 1)) t := by
        intro t kt
        refine pre5 _ ?_
        show Steps p.tables e below (s₁.setTop (mkF m 10 #[iv p0] [(.int (1 : Int32)), (.int p0)])) _
        refine XS.icmpNo X0.here hx rfl (hb hby d1_10) rfl (teq hc10).2 ?_
        exact kt
      obtain ⟨T7, X7, e7, st7⟩ := getS2 X0 hx hZ hown (host := "") (Or.inl (hw _ (List.mem_of_getElem? (i := 19) rfl))) Via.refl e0 (S_APPLICATION.ext (O0.keep (Keep.refl h0 []) all0).2) (g := (mkF m 13 #[iv p0] [])) rfl (hb hby d1_13)
      have pre8 : ∀ t, Steps p.tables e below (T7.setTop (mkF m 16 #[iv p0] [(.ref (el 1))])) t → Steps p.tables e below (s₁.setTop (entryFrame m #[(.int p0)] 1)) t := by
        intro t kt
        refine pre6 _ ?_
        show Steps p.tables e below (s₁.setTop (mkF m 13 #[iv p0] [])) _
        refine st7 _ ?_
        exact kt
      obtain ⟨fs, hr, hrun, hended, hW, hsame⟩ := X7.leave (v := some (.ref (el 1))) (fun h => by rw [Bd.returns] at h; cases h)
      refine ⟨_, _, pre8 _ ?_, hrun, hended, _, _, rfl, ?_, ⟨_, rfl⟩, hW, hsame.mono (by decide) (by decide)⟩
      · show Steps p.tables e below (T7.setTop (mkF m 16 #[iv p0] [(.ref (el 1))])) _
        jvm_step X7.here [X7.here.top, hx, (hb hby d1_16), X7.method', Bd.returns, Value.isRef, FieldType.isReference]
        first | (intro acts; rw [hr _ acts rfl rfl rfl]) | rw [hr _ _ rfl rfl rfl]
        exact Steps.refl _
      · show Q1 Z p0 el h0 n0 _ T7.heap _
        rw [e7]
        exact ⟨congrArg some ((if_neg hc1).trans ((if_pos hc10).trans rfl)).symm, N0, rfl⟩
    · have pre9 : ∀ t, Steps p.tables e below (s₁.setTop (mkF m 19 #[iv p0] [(.int (2 : Int32)), (.int p0)])) t → Steps p.tables e below (s₁.setTop (entryFrame m #[(.int p0)] 1)) t := by
        intro t kt
        refine pre5 _ ?_
        show Steps p.tables e below (s₁.setTop (mkF m 10 #[iv p0] [(.int (1 : Int32)), (.int p0)])) _
        refine XS.icmpYes X0.here hx rfl (pc0 := 10) (pc' := 17) rfl (hb hby d1_10) rfl (feq hc10).2 (by decide) (by decide) ?_
        show Steps p.tables e below (s₁.setTop (mkF m 17 #[iv p0] [])) _
        refine XS.iloadN X0.here hx rfl (hb hby d1_17) rfl ?_
        show Steps p.tables e below (s₁.setTop (mkF m 18 #[iv p0] [(.int p0)])) _
        refine XS.iconst X0.here hx rfl (hb hby d1_18) ?_
        exact kt
      by_cases hc19 : p0 = (2 : Int32)
      · have pre10 : ∀ t, Steps p.tables e below (s₁.setTop (mkF m 22 #[iv p0] [])) t → Steps p.tables e below (s₁.setTop (entryFrame m #[(.int p0)] 1)) t := by
          intro t kt
          refine pre9 _ ?_
          show Steps p.tables e below (s₁.setTop (mkF m 19 #[iv p0] [(.int (2 : Int32)), (.int p0)])) _
          refine XS.icmpNo X0.here hx rfl (hb hby d1_19) rfl (teq hc19).2 ?_
          exact kt
        obtain ⟨T11, X11, e11, st11⟩ := getS2 X0 hx hZ hown (host := "") (Or.inl (hw _ (List.mem_of_getElem? (i := 27) rfl))) Via.refl e0 (S_PROGRAM.ext (O0.keep (Keep.refl h0 []) all0).2) (g := (mkF m 22 #[iv p0] [])) rfl (hb hby d1_22)
        have pre12 : ∀ t, Steps p.tables e below (T11.setTop (mkF m 25 #[iv p0] [(.ref (el 2))])) t → Steps p.tables e below (s₁.setTop (entryFrame m #[(.int p0)] 1)) t := by
          intro t kt
          refine pre10 _ ?_
          show Steps p.tables e below (s₁.setTop (mkF m 22 #[iv p0] [])) _
          refine st11 _ ?_
          exact kt
        obtain ⟨fs, hr, hrun, hended, hW, hsame⟩ := X11.leave (v := some (.ref (el 2))) (fun h => by rw [Bd.returns] at h; cases h)
        refine ⟨_, _, pre12 _ ?_, hrun, hended, _, _, rfl, ?_, ⟨_, rfl⟩, hW, hsame.mono (by decide) (by decide)⟩
        · show Steps p.tables e below (T11.setTop (mkF m 25 #[iv p0] [(.ref (el 2))])) _
          jvm_step X11.here [X11.here.top, hx, (hb hby d1_25), X11.method', Bd.returns, Value.isRef, FieldType.isReference]
          first | (intro acts; rw [hr _ acts rfl rfl rfl]) | rw [hr _ _ rfl rfl rfl]
          exact Steps.refl _
        · show Q1 Z p0 el h0 n0 _ T11.heap _
          rw [e11]
          exact ⟨congrArg some ((if_neg hc1).trans ((if_neg hc10).trans ((if_pos hc19).trans rfl))).symm, N0, rfl⟩
      · have pre13 : ∀ t, Steps p.tables e below (s₁.setTop (mkF m 28 #[iv p0] [(.int (3 : Int32)), (.int p0)])) t → Steps p.tables e below (s₁.setTop (entryFrame m #[(.int p0)] 1)) t := by
          intro t kt
          refine pre9 _ ?_
          show Steps p.tables e below (s₁.setTop (mkF m 19 #[iv p0] [(.int (2 : Int32)), (.int p0)])) _
          refine XS.icmpYes X0.here hx rfl (pc0 := 19) (pc' := 26) rfl (hb hby d1_19) rfl (feq hc19).2 (by decide) (by decide) ?_
          show Steps p.tables e below (s₁.setTop (mkF m 26 #[iv p0] [])) _
          refine XS.iloadN X0.here hx rfl (hb hby d1_26) rfl ?_
          show Steps p.tables e below (s₁.setTop (mkF m 27 #[iv p0] [(.int p0)])) _
          refine XS.iconst X0.here hx rfl (hb hby d1_27) ?_
          exact kt
        by_cases hc28 : p0 = (3 : Int32)
        · have pre14 : ∀ t, Steps p.tables e below (s₁.setTop (mkF m 31 #[iv p0] [])) t → Steps p.tables e below (s₁.setTop (entryFrame m #[(.int p0)] 1)) t := by
            intro t kt
            refine pre13 _ ?_
            show Steps p.tables e below (s₁.setTop (mkF m 28 #[iv p0] [(.int (3 : Int32)), (.int p0)])) _
            refine XS.icmpNo X0.here hx rfl (hb hby d1_28) rfl (teq hc28).2 ?_
            exact kt
          obtain ⟨T15, X15, e15, st15⟩ := getS2 X0 hx hZ hown (host := "") (Or.inl (hw _ (List.mem_of_getElem? (i := 8) rfl))) Via.refl e0 (S_DATASET.ext (O0.keep (Keep.refl h0 []) all0).2) (g := (mkF m 31 #[iv p0] [])) rfl (hb hby d1_31)
          have pre16 : ∀ t, Steps p.tables e below (T15.setTop (mkF m 34 #[iv p0] [(.ref (el 3))])) t → Steps p.tables e below (s₁.setTop (entryFrame m #[(.int p0)] 1)) t := by
            intro t kt
            refine pre14 _ ?_
            show Steps p.tables e below (s₁.setTop (mkF m 31 #[iv p0] [])) _
            refine st15 _ ?_
            exact kt
          obtain ⟨fs, hr, hrun, hended, hW, hsame⟩ := X15.leave (v := some (.ref (el 3))) (fun h => by rw [Bd.returns] at h; cases h)
          refine ⟨_, _, pre16 _ ?_, hrun, hended, _, _, rfl, ?_, ⟨_, rfl⟩, hW, hsame.mono (by decide) (by decide)⟩
          · show Steps p.tables e below (T15.setTop (mkF m 34 #[iv p0] [(.ref (el 3))])) _
            jvm_step X15.here [X15.here.top, hx, (hb hby d1_34), X15.method', Bd.returns, Value.isRef, FieldType.isReference]
            first | (intro acts; rw [hr _ acts rfl rfl rfl]) | rw [hr _ _ rfl rfl rfl]
            exact Steps.refl _
          · show Q1 Z p0 el h0 n0 _ T15.heap _
            rw [e15]
            exact ⟨congrArg some ((if_neg hc1).trans ((if_neg hc10).trans ((if_neg hc19).trans ((if_pos hc28).trans rfl)))).symm, N0, rfl⟩
        · have pre17 : ∀ t, Steps p.tables e below (s₁.setTop (mkF m 37 #[iv p0] [(.int (4 : Int32)), (.int p0)])) t → Steps p.tables e below (s₁.setTop (entryFrame m #[(.int p0)] 1)) t := by
            intro t kt
            refine pre13 _ ?_
            show Steps p.tables e below (s₁.setTop (mkF m 28 #[iv p0] [(.int (3 : Int32)), (.int p0)])) _
            refine XS.icmpYes X0.here hx rfl (pc0 := 28) (pc' := 35) rfl (hb hby d1_28) rfl (feq hc28).2 (by decide) (by decide) ?_
            show Steps p.tables e below (s₁.setTop (mkF m 35 #[iv p0] [])) _
            refine XS.iloadN X0.here hx rfl (hb hby d1_35) rfl ?_
            show Steps p.tables e below (s₁.setTop (mkF m 36 #[iv p0] [(.int p0)])) _
            refine XS.iconst X0.here hx rfl (hb hby d1_36) ?_
            exact kt
          by_cases hc37 : p0 = (4 : Int32)
          · have pre18 : ∀ t, Steps p.tables e below (s₁.setTop (mkF m 40 #[iv p0] [])) t → Steps p.tables e below (s₁.setTop (entryFrame m #[(.int p0)] 1)) t := by
              intro t kt
              refine pre17 _ ?_
              show Steps p.tables e below (s₁.setTop (mkF m 37 #[iv p0] [(.int (4 : Int32)), (.int p0)])) _
              refine XS.icmpNo X0.here hx rfl (hb hby d1_37) rfl (teq hc37).2 ?_
              exact kt
            obtain ⟨T19, X19, e19, st19⟩ := getS2 X0 hx hZ hown (host := "") (Or.inl (hw _ (List.mem_of_getElem? (i := 17) rfl))) Via.refl e0 (S_STREAM.ext (O0.keep (Keep.refl h0 []) all0).2) (g := (mkF m 40 #[iv p0] [])) rfl (hb hby d1_40)
            have pre20 : ∀ t, Steps p.tables e below (T19.setTop (mkF m 43 #[iv p0] [(.ref (el 4))])) t → Steps p.tables e below (s₁.setTop (entryFrame m #[(.int p0)] 1)) t := by
              intro t kt
              refine pre18 _ ?_
              show Steps p.tables e below (s₁.setTop (mkF m 40 #[iv p0] [])) _
              refine st19 _ ?_
              exact kt
            obtain ⟨fs, hr, hrun, hended, hW, hsame⟩ := X19.leave (v := some (.ref (el 4))) (fun h => by rw [Bd.returns] at h; cases h)
            refine ⟨_, _, pre20 _ ?_, hrun, hended, _, _, rfl, ?_, ⟨_, rfl⟩, hW, hsame.mono (by decide) (by decide)⟩
            · show Steps p.tables e below (T19.setTop (mkF m 43 #[iv p0] [(.ref (el 4))])) _
              jvm_step X19.here [X19.here.top, hx, (hb hby d1_43), X19.method', Bd.returns, Value.isRef, FieldType.isReference]
              first | (intro acts; rw [hr _ acts rfl rfl rfl]) | rw [hr _ _ rfl rfl rfl]
              exact Steps.refl _
            · show Q1 Z p0 el h0 n0 _ T19.heap _
              rw [e19]
              exact ⟨congrArg some ((if_neg hc1).trans ((if_neg hc10).trans ((if_neg hc19).trans ((if_neg hc28).trans ((if_pos hc37).trans rfl))))).symm, N0, rfl⟩
          · have pre21 : ∀ t, Steps p.tables e below (s₁.setTop (mkF m 46 #[iv p0] [(.int (5 : Int32)), (.int p0)])) t → Steps p.tables e below (s₁.setTop (entryFrame m #[(.int p0)] 1)) t := by
              intro t kt
              refine pre17 _ ?_
              show Steps p.tables e below (s₁.setTop (mkF m 37 #[iv p0] [(.int (4 : Int32)), (.int p0)])) _
              refine XS.icmpYes X0.here hx rfl (pc0 := 37) (pc' := 44) rfl (hb hby d1_37) rfl (feq hc37).2 (by decide) (by decide) ?_
              show Steps p.tables e below (s₁.setTop (mkF m 44 #[iv p0] [])) _
              refine XS.iloadN X0.here hx rfl (hb hby d1_44) rfl ?_
              show Steps p.tables e below (s₁.setTop (mkF m 45 #[iv p0] [(.int p0)])) _
              refine XS.iconst X0.here hx rfl (hb hby d1_45) ?_
              exact kt
            by_cases hc46 : p0 = (5 : Int32)
            · have pre22 : ∀ t, Steps p.tables e below (s₁.setTop (mkF m 49 #[iv p0] [])) t → Steps p.tables e below (s₁.setTop (entryFrame m #[(.int p0)] 1)) t := by
                intro t kt
                refine pre21 _ ?_
                show Steps p.tables e below (s₁.setTop (mkF m 46 #[iv p0] [(.int (5 : Int32)), (.int p0)])) _
                refine XS.icmpNo X0.here hx rfl (hb hby d1_46) rfl (teq hc46).2 ?_
                exact kt
              obtain ⟨T23, X23, e23, st23⟩ := getS2 X0 hx hZ hown (host := "") (Or.inl (hw _ (List.mem_of_getElem? (i := 29) rfl))) Via.refl e0 (S_ARTIFACT.ext (O0.keep (Keep.refl h0 []) all0).2) (g := (mkF m 49 #[iv p0] [])) rfl (hb hby d1_49)
              have pre24 : ∀ t, Steps p.tables e below (T23.setTop (mkF m 52 #[iv p0] [(.ref (el 5))])) t → Steps p.tables e below (s₁.setTop (entryFrame m #[(.int p0)] 1)) t := by
                intro t kt
                refine pre22 _ ?_
                show Steps p.tables e below (s₁.setTop (mkF m 49 #[iv p0] [])) _
                refine st23 _ ?_
                exact kt
              obtain ⟨fs, hr, hrun, hended, hW, hsame⟩ := X23.leave (v := some (.ref (el 5))) (fun h => by rw [Bd.returns] at h; cases h)
              refine ⟨_, _, pre24 _ ?_, hrun, hended, _, _, rfl, ?_, ⟨_, rfl⟩, hW, hsame.mono (by decide) (by decide)⟩
              · show Steps p.tables e below (T23.setTop (mkF m 52 #[iv p0] [(.ref (el 5))])) _
                jvm_step X23.here [X23.here.top, hx, (hb hby d1_52), X23.method', Bd.returns, Value.isRef, FieldType.isReference]
                first | (intro acts; rw [hr _ acts rfl rfl rfl]) | rw [hr _ _ rfl rfl rfl]
                exact Steps.refl _
              · show Q1 Z p0 el h0 n0 _ T23.heap _
                rw [e23]
                exact ⟨congrArg some ((if_neg hc1).trans ((if_neg hc10).trans ((if_neg hc19).trans ((if_neg hc28).trans ((if_neg hc37).trans ((if_pos hc46).trans rfl)))))).symm, N0, rfl⟩
            · have pre25 : ∀ t, Steps p.tables e below (s₁.setTop (mkF m 56 #[iv p0] [(.int (6 : Int32)), (.int p0)])) t → Steps p.tables e below (s₁.setTop (entryFrame m #[(.int p0)] 1)) t := by
                intro t kt
                refine pre21 _ ?_
                show Steps p.tables e below (s₁.setTop (mkF m 46 #[iv p0] [(.int (5 : Int32)), (.int p0)])) _
                refine XS.icmpYes X0.here hx rfl (pc0 := 46) (pc' := 53) rfl (hb hby d1_46) rfl (feq hc46).2 (by decide) (by decide) ?_
                show Steps p.tables e below (s₁.setTop (mkF m 53 #[iv p0] [])) _
                refine XS.iloadN X0.here hx rfl (hb hby d1_53) rfl ?_
                show Steps p.tables e below (s₁.setTop (mkF m 54 #[iv p0] [(.int p0)])) _
                refine XS.bipush X0.here hx rfl (hb hby d1_54) ?_
                exact kt
              by_cases hc56 : p0 = (6 : Int32)
              · have pre26 : ∀ t, Steps p.tables e below (s₁.setTop (mkF m 59 #[iv p0] [])) t → Steps p.tables e below (s₁.setTop (entryFrame m #[(.int p0)] 1)) t := by
                  intro t kt
                  refine pre25 _ ?_
                  show Steps p.tables e below (s₁.setTop (mkF m 56 #[iv p0] [(.int (6 : Int32)), (.int p0)])) _
                  refine XS.icmpNo X0.here hx rfl (hb hby d1_56) rfl (teq hc56).2 ?_
                  exact kt
                obtain ⟨T27, X27, e27, st27⟩ := getS2 X0 hx hZ hown (host := "") (Or.inl (hw _ (List.mem_of_getElem? (i := 23) rfl))) Via.refl e0 (S_DATASET_TYPE.ext (O0.keep (Keep.refl h0 []) all0).2) (g := (mkF m 59 #[iv p0] [])) rfl (hb hby d1_59)
                have pre28 : ∀ t, Steps p.tables e below (T27.setTop (mkF m 62 #[iv p0] [(.ref (el 6))])) t → Steps p.tables e below (s₁.setTop (entryFrame m #[(.int p0)] 1)) t := by
                  intro t kt
                  refine pre26 _ ?_
                  show Steps p.tables e below (s₁.setTop (mkF m 59 #[iv p0] [])) _
                  refine st27 _ ?_
                  exact kt
                obtain ⟨fs, hr, hrun, hended, hW, hsame⟩ := X27.leave (v := some (.ref (el 6))) (fun h => by rw [Bd.returns] at h; cases h)
                refine ⟨_, _, pre28 _ ?_, hrun, hended, _, _, rfl, ?_, ⟨_, rfl⟩, hW, hsame.mono (by decide) (by decide)⟩
                · show Steps p.tables e below (T27.setTop (mkF m 62 #[iv p0] [(.ref (el 6))])) _
                  jvm_step X27.here [X27.here.top, hx, (hb hby d1_62), X27.method', Bd.returns, Value.isRef, FieldType.isReference]
                  first | (intro acts; rw [hr _ acts rfl rfl rfl]) | rw [hr _ _ rfl rfl rfl]
                  exact Steps.refl _
                · show Q1 Z p0 el h0 n0 _ T27.heap _
                  rw [e27]
                  exact ⟨congrArg some ((if_neg hc1).trans ((if_neg hc10).trans ((if_neg hc19).trans ((if_neg hc28).trans ((if_neg hc37).trans ((if_neg hc46).trans ((if_pos hc56).trans rfl))))))).symm, N0, rfl⟩
              · have pre29 : ∀ t, Steps p.tables e below (s₁.setTop (mkF m 66 #[iv p0] [(.int (7 : Int32)), (.int p0)])) t → Steps p.tables e below (s₁.setTop (entryFrame m #[(.int p0)] 1)) t := by
                  intro t kt
                  refine pre25 _ ?_
                  show Steps p.tables e below (s₁.setTop (mkF m 56 #[iv p0] [(.int (6 : Int32)), (.int p0)])) _
                  refine XS.icmpYes X0.here hx rfl (pc0 := 56) (pc' := 63) rfl (hb hby d1_56) rfl (feq hc56).2 (by decide) (by decide) ?_
                  show Steps p.tables e below (s₁.setTop (mkF m 63 #[iv p0] [])) _
                  refine XS.iloadN X0.here hx rfl (hb hby d1_63) rfl ?_
                  show Steps p.tables e below (s₁.setTop (mkF m 64 #[iv p0] [(.int p0)])) _
                  refine XS.bipush X0.here hx rfl (hb hby d1_64) ?_
                  exact kt
                by_cases hc66 : p0 = (7 : Int32)
                · have pre30 : ∀ t, Steps p.tables e below (s₁.setTop (mkF m 69 #[iv p0] [])) t → Steps p.tables e below (s₁.setTop (entryFrame m #[(.int p0)] 1)) t := by
                    intro t kt
                    refine pre29 _ ?_
                    show Steps p.tables e below (s₁.setTop (mkF m 66 #[iv p0] [(.int (7 : Int32)), (.int p0)])) _
                    refine XS.icmpNo X0.here hx rfl (hb hby d1_66) rfl (teq hc66).2 ?_
                    exact kt
                  obtain ⟨T31, X31, e31, st31⟩ := getS2 X0 hx hZ hown (host := "") (Or.inl (hw _ (List.mem_of_getElem? (i := 31) rfl))) Via.refl e0 (S_DATASET_MODULE.ext (O0.keep (Keep.refl h0 []) all0).2) (g := (mkF m 69 #[iv p0] [])) rfl (hb hby d1_69)
                  have pre32 : ∀ t, Steps p.tables e below (T31.setTop (mkF m 72 #[iv p0] [(.ref (el 7))])) t → Steps p.tables e below (s₁.setTop (entryFrame m #[(.int p0)] 1)) t := by
                    intro t kt
                    refine pre30 _ ?_
                    show Steps p.tables e below (s₁.setTop (mkF m 69 #[iv p0] [])) _
                    refine st31 _ ?_
                    exact kt
                  obtain ⟨fs, hr, hrun, hended, hW, hsame⟩ := X31.leave (v := some (.ref (el 7))) (fun h => by rw [Bd.returns] at h; cases h)
                  refine ⟨_, _, pre32 _ ?_, hrun, hended, _, _, rfl, ?_, ⟨_, rfl⟩, hW, hsame.mono (by decide) (by decide)⟩
                  · show Steps p.tables e below (T31.setTop (mkF m 72 #[iv p0] [(.ref (el 7))])) _
                    jvm_step X31.here [X31.here.top, hx, (hb hby d1_72), X31.method', Bd.returns, Value.isRef, FieldType.isReference]
                    first | (intro acts; rw [hr _ acts rfl rfl rfl]) | rw [hr _ _ rfl rfl rfl]
                    exact Steps.refl _
                  · show Q1 Z p0 el h0 n0 _ T31.heap _
                    rw [e31]
                    exact ⟨congrArg some ((if_neg hc1).trans ((if_neg hc10).trans ((if_neg hc19).trans ((if_neg hc28).trans ((if_neg hc37).trans ((if_neg hc46).trans ((if_neg hc56).trans ((if_pos hc66).trans rfl)))))))).symm, N0, rfl⟩
                · have pre33 : ∀ t, Steps p.tables e below (s₁.setTop (mkF m 76 #[iv p0] [(.int (8 : Int32)), (.int p0)])) t → Steps p.tables e below (s₁.setTop (entryFrame m #[(.int p0)] 1)) t := by
                    intro t kt
                    refine pre29 _ ?_
                    show Steps p.tables e below (s₁.setTop (mkF m 66 #[iv p0] [(.int (7 : Int32)), (.int p0)])) _
                    refine XS.icmpYes X0.here hx rfl (pc0 := 66) (pc' := 73) rfl (hb hby d1_66) rfl (feq hc66).2 (by decide) (by decide) ?_
                    show Steps p.tables e below (s₁.setTop (mkF m 73 #[iv p0] [])) _
                    refine XS.iloadN X0.here hx rfl (hb hby d1_73) rfl ?_
                    show Steps p.tables e below (s₁.setTop (mkF m 74 #[iv p0] [(.int p0)])) _
                    refine XS.bipush X0.here hx rfl (hb hby d1_74) ?_
                    exact kt
                  by_cases hc76 : p0 = (8 : Int32)
                  · have pre34 : ∀ t, Steps p.tables e below (s₁.setTop (mkF m 79 #[iv p0] [])) t → Steps p.tables e below (s₁.setTop (entryFrame m #[(.int p0)] 1)) t := by
                      intro t kt
                      refine pre33 _ ?_
                      show Steps p.tables e below (s₁.setTop (mkF m 76 #[iv p0] [(.int (8 : Int32)), (.int p0)])) _
                      refine XS.icmpNo X0.here hx rfl (hb hby d1_76) rfl (teq hc76).2 ?_
                      exact kt
                    obtain ⟨T35, X35, e35, st35⟩ := getS2 X0 hx hZ hown (host := "") (Or.inl (hw _ (List.mem_of_getElem? (i := 21) rfl))) Via.refl e0 (S_SECUREKEY.ext (O0.keep (Keep.refl h0 []) all0).2) (g := (mkF m 79 #[iv p0] [])) rfl (hb hby d1_79)
                    have pre36 : ∀ t, Steps p.tables e below (T35.setTop (mkF m 82 #[iv p0] [(.ref (el 8))])) t → Steps p.tables e below (s₁.setTop (entryFrame m #[(.int p0)] 1)) t := by
                      intro t kt
                      refine pre34 _ ?_
                      show Steps p.tables e below (s₁.setTop (mkF m 79 #[iv p0] [])) _
                      refine st35 _ ?_
                      exact kt
                    obtain ⟨fs, hr, hrun, hended, hW, hsame⟩ := X35.leave (v := some (.ref (el 8))) (fun h => by rw [Bd.returns] at h; cases h)
                    refine ⟨_, _, pre36 _ ?_, hrun, hended, _, _, rfl, ?_, ⟨_, rfl⟩, hW, hsame.mono (by decide) (by decide)⟩
                    · show Steps p.tables e below (T35.setTop (mkF m 82 #[iv p0] [(.ref (el 8))])) _
                      jvm_step X35.here [X35.here.top, hx, (hb hby d1_82), X35.method', Bd.returns, Value.isRef, FieldType.isReference]
                      first | (intro acts; rw [hr _ acts rfl rfl rfl]) | rw [hr _ _ rfl rfl rfl]
                      exact Steps.refl _
                    · show Q1 Z p0 el h0 n0 _ T35.heap _
                      rw [e35]
                      exact ⟨congrArg some ((if_neg hc1).trans ((if_neg hc10).trans ((if_neg hc19).trans ((if_neg hc28).trans ((if_neg hc37).trans ((if_neg hc46).trans ((if_neg hc56).trans ((if_neg hc66).trans ((if_pos hc76).trans rfl))))))))).symm, N0, rfl⟩
                  · have pre37 : ∀ t, Steps p.tables e below (s₁.setTop (mkF m 86 #[iv p0] [(.int (9 : Int32)), (.int p0)])) t → Steps p.tables e below (s₁.setTop (entryFrame m #[(.int p0)] 1)) t := by
                      intro t kt
                      refine pre33 _ ?_
                      show Steps p.tables e below (s₁.setTop (mkF m 76 #[iv p0] [(.int (8 : Int32)), (.int p0)])) _
                      refine XS.icmpYes X0.here hx rfl (pc0 := 76) (pc' := 83) rfl (hb hby d1_76) rfl (feq hc76).2 (by decide) (by decide) ?_
                      show Steps p.tables e below (s₁.setTop (mkF m 83 #[iv p0] [])) _
                      refine XS.iloadN X0.here hx rfl (hb hby d1_83) rfl ?_
                      show Steps p.tables e below (s₁.setTop (mkF m 84 #[iv p0] [(.int p0)])) _
                      refine XS.bipush X0.here hx rfl (hb hby d1_84) ?_
                      exact kt
                    by_cases hc86 : p0 = (9 : Int32)
                    · have pre38 : ∀ t, Steps p.tables e below (s₁.setTop (mkF m 89 #[iv p0] [])) t → Steps p.tables e below (s₁.setTop (entryFrame m #[(.int p0)] 1)) t := by
                        intro t kt
                        refine pre37 _ ?_
                        show Steps p.tables e below (s₁.setTop (mkF m 86 #[iv p0] [(.int (9 : Int32)), (.int p0)])) _
                        refine XS.icmpNo X0.here hx rfl (hb hby d1_86) rfl (teq hc86).2 ?_
                        exact kt
                      obtain ⟨T39, X39, e39, st39⟩ := getS2 X0 hx hZ hown (host := "") (Or.inl (hw _ (List.mem_of_getElem? (i := 25) rfl))) Via.refl e0 (S_KERBEROSPRINCIPAL.ext (O0.keep (Keep.refl h0 []) all0).2) (g := (mkF m 89 #[iv p0] [])) rfl (hb hby d1_89)
                      have pre40 : ∀ t, Steps p.tables e below (T39.setTop (mkF m 92 #[iv p0] [(.ref (el 9))])) t → Steps p.tables e below (s₁.setTop (entryFrame m #[(.int p0)] 1)) t := by
                        intro t kt
                        refine pre38 _ ?_
                        show Steps p.tables e below (s₁.setTop (mkF m 89 #[iv p0] [])) _
                        refine st39 _ ?_
                        exact kt
                      obtain ⟨fs, hr, hrun, hended, hW, hsame⟩ := X39.leave (v := some (.ref (el 9))) (fun h => by rw [Bd.returns] at h; cases h)
                      refine ⟨_, _, pre40 _ ?_, hrun, hended, _, _, rfl, ?_, ⟨_, rfl⟩, hW, hsame.mono (by decide) (by decide)⟩
                      · show Steps p.tables e below (T39.setTop (mkF m 92 #[iv p0] [(.ref (el 9))])) _
                        jvm_step X39.here [X39.here.top, hx, (hb hby d1_92), X39.method', Bd.returns, Value.isRef, FieldType.isReference]
                        first | (intro acts; rw [hr _ acts rfl rfl rfl]) | rw [hr _ _ rfl rfl rfl]
                        exact Steps.refl _
                      · show Q1 Z p0 el h0 n0 _ T39.heap _
                        rw [e39]
                        exact ⟨congrArg some ((if_neg hc1).trans ((if_neg hc10).trans ((if_neg hc19).trans ((if_neg hc28).trans ((if_neg hc37).trans ((if_neg hc46).trans ((if_neg hc56).trans ((if_neg hc66).trans ((if_neg hc76).trans ((if_pos hc86).trans rfl)))))))))).symm, N0, rfl⟩
                    · have pre41 : ∀ t, Steps p.tables e below (s₁.setTop (mkF m 94 #[iv p0] [.null])) t → Steps p.tables e below (s₁.setTop (entryFrame m #[(.int p0)] 1)) t := by
                        intro t kt
                        refine pre37 _ ?_
                        show Steps p.tables e below (s₁.setTop (mkF m 86 #[iv p0] [(.int (9 : Int32)), (.int p0)])) _
                        refine XS.icmpYes X0.here hx rfl (pc0 := 86) (pc' := 93) rfl (hb hby d1_86) rfl (feq hc86).2 (by decide) (by decide) ?_
                        show Steps p.tables e below (s₁.setTop (mkF m 93 #[iv p0] [])) _
                        refine XS.aconstNull X0.here hx rfl (hb hby d1_93) ?_
                        exact kt
                      obtain ⟨fs, hr, hrun, hended, hW, hsame⟩ := X0.leave (v := some .null) (fun h => by rw [Bd.returns] at h; cases h)
                      refine ⟨_, _, pre41 _ ?_, hrun, hended, _, _, rfl, ?_, ⟨_, rfl⟩, hW, hsame.mono (by decide) (by decide)⟩
                      · show Steps p.tables e below (s₁.setTop (mkF m 94 #[iv p0] [.null])) _
                        jvm_step X0.here [X0.here.top, hx, (hb hby d1_94), X0.method', Bd.returns, Value.isRef, FieldType.isReference]
                        first | (intro acts; rw [hr _ acts rfl rfl rfl]) | rw [hr _ _ rfl rfl rfl]
                        exact Steps.refl _
                      · show Q1 Z p0 el h0 n0 _ s₁.heap _
                        rw [e0]
                        exact ⟨congrArg some ((if_neg hc1).trans ((if_neg hc10).trans ((if_neg hc19).trans ((if_neg hc28).trans ((if_neg hc37).trans ((if_neg hc46).trans ((if_neg hc56).trans ((if_neg hc66).trans ((if_neg hc76).trans ((if_neg hc86).trans rfl)))))))))).symm, N0, rfl⟩
theorem pn1 : plainName "com/example/subject/subject/model/EntityType" = true := by first | (simp [plainName, overriddenIn]; done) | decide +kernel
theorem d2_0 : decode prog_31_method_5_code 0 = .ok (.aload_n 0, 1) := by decide +kernel
theorem d2_1 : decode prog_31_method_5_code 1 = .ok (.getfield 61, 3) := by decide +kernel
theorem d2_4 : decode prog_31_method_5_code 4 = .ok (.astore_n 2, 1) := by decide +kernel
theorem d2_5 : decode prog_31_method_5_code 5 = .ok (.aload_n 2, 1) := by decide +kernel
theorem d2_6 : decode prog_31_method_5_code 6 = .ok (.ifnull 18, 3) := by decide +kernel
theorem d2_24 : decode prog_31_method_5_code 24 = .ok (.iconst 0, 1) := by decide +kernel
theorem d2_25 : decode prog_31_method_5_code 25 = .ok (.ireturn, 1) := by decide +kernel
theorem ef_2a (m : MethodId) (x0 : Addr) (x1 : Value) (hr1 : x1.isRef = true) : entryFrame m #[(.ref x0), x1] 3 = mkF m 0 #[.val (.ref x0), .val x1, .unset] [] := by rcases ref_cases hr1 with rfl | ⟨_, rfl⟩ <;> first | (simp [entryFrame, mkF, argsToLocals, Value.category]; done) | rfl
def Q2a (Z : State) (r0 : Addr) (u1 : Value) (h0 : Heap) (n0 : Nat) (v : Option Value) (h : Heap) (L : List Loc) : Prop := v = some (.int (0 : Int32)) ∧ Fr n0 L ∧ h = h0
set_option maxRecDepth 65536 in
set_option maxHeartbeats 40000000 in
theorem rm2a (l : Launch) (Z : State) (a0 : Array Value) (hw : ∀ d ∈ tables_1, d.before a0 Z = true) (ws : List Jvm.Cond) (r0 : Addr) (u1 : Value) (h0 : Heap) (n0 : Nat) (Z0 : n0 ≤ h0.size) (hr_u1 : u1.isRef = true) (F_container_r0 : Fld Z h0 r0 "com/example/subject/subject/model/EntityType" "container" "Lcom/example/subject/subject/model/EntityType;" .null) :
    MetFree l (⟨"com/example/subject/subject/model/EntityType", "livesIn", "(Lcom/example/subject/subject/model/EntityType;)Z"⟩ : MethodName) (head1 (Jvm.Cond.code (⟨"com/example/subject/subject/model/EntityType", "livesIn", "(Lcom/example/subject/subject/model/EntityType;)Z"⟩ : MethodName) prog_31_method_5_code 3 (some .boolean) :: ws) ({ frames := 0, cells := 0, slots := 0, locals := 0 } : Room)) (fun a U => a = #[(.ref r0), u1] ∧ Z.Warmed39 U.vm ∧ U.heap = h0) (fun _ _ _ _ _ => True) (fun _ U o U' => ∃ v L, o = .returned v ∧ Q2a Z r0 u1 h0 n0 v U'.heap L ∧ FrameEnd U o U' L ({ frames := 0, cells := 0, slots := 0, locals := 0 } : Room).cells ({ frames := 0, cells := 0, slots := 0, locals := 0 } : Room).slots) := by
  refine MetFree.of_bodySF (plainFor_of_name pn1) hisR ?_
  intro p e s m args below meth c s₁ Bd hml0 hP hK
  obtain ⟨rfl, hZ, hh⟩ := hP
  have hx := Bd.exec
  have hby := Bd.bytes
  have hml : c.maxLocals = 3 := hml0
  have hown : s.vm.findClass "com/example/subject/subject/model/EntityType" = some m.cls := findClass_of_methodNamed Bd.named
  have hnm := (name_of_methodNamed Bd.named Bd.method).1
  have X0 : Stand p l e ({ frames := 0, cells := 0, slots := 0, locals := 0 } : Room) s m #[(.ref r0), u1] below meth c s₁ [] 0 0 := Stand.of_body Bd
  have e0 : s₁.heap = h0 := by rw [← hh, Bd.state]; rfl
  have N0 := Fr.nil n0
  have pre0 : ∀ t, Steps p.tables e below (s₁.setTop (mkF m 0 #[rv r0, .val u1, .unset] [])) t → Steps p.tables e below (s₁.setTop (entryFrame m #[(.ref r0), u1] 3)) t := fun t k => castTop (ef_2a m r0 u1 hr_u1) k
  have pre1 : ∀ t, Steps p.tables e below (s₁.setTop (mkF m 1 #[rv r0, .val u1, .unset] [(.ref r0)])) t → Steps p.tables e below (s₁.setTop (entryFrame m #[(.ref r0), u1] 3)) t := by
    intro t kt
    refine pre0 _ ?_
    show Steps p.tables e below (s₁.setTop (mkF m 0 #[rv r0, .val u1, .unset] [])) _
    refine XS.aloadN X0.here hx rfl (hb hby d2_0) rfl rfl ?_
    exact kt
  obtain ⟨T2, X2, e2, st2⟩ := getF X0 hx hZ hown (host := "") (Or.inl (hw _ (List.mem_of_getElem? (i := 15) rfl))) Via.refl e0 F_container_r0 (g := (mkF m 1 #[rv r0, .val u1, .unset] [(.ref r0)])) rfl rfl (hb hby d2_1)
  have pre3 : ∀ t, Steps p.tables e below (T2.setTop (mkF m 25 #[rv r0, .val u1, .val .null] [(.int (0 : Int32))])) t → Steps p.tables e below (s₁.setTop (entryFrame m #[(.ref r0), u1] 3)) t := by
    intro t kt
    refine pre1 _ ?_
    show Steps p.tables e below (s₁.setTop (mkF m 1 #[rv r0, .val u1, .unset] [(.ref r0)])) _
    refine st2 _ ?_
    show Steps p.tables e below (T2.setTop (mkF m 4 #[rv r0, .val u1, .unset] [.null])) _
    refine XS.astoreN X2.here hx rfl (hb hby d2_4) rfl rfl (l' := #[rv r0, .val u1, .val .null]) rfl ?_
    show Steps p.tables e below (T2.setTop (mkF m 5 #[rv r0, .val u1, .val .null] [])) _
    refine XS.aloadN X2.here hx rfl (hb hby d2_5) rfl rfl ?_
    show Steps p.tables e below (T2.setTop (mkF m 6 #[rv r0, .val u1, .val .null] [.null])) _
    refine XS.ifnullYes X2.here hx rfl (pc0 := 6) (pc' := 24) rfl (hb hby d2_6) rfl (by decide) (by decide) ?_
    show Steps p.tables e below (T2.setTop (mkF m 24 #[rv r0, .val u1, .val .null] [])) _
    refine XS.iconst X2.here hx rfl (hb hby d2_24) ?_
    exact kt
  obtain ⟨fs, hr, hrun, hended, hW, hsame⟩ := X2.leave (v := some (.int (0 : Int32))) (fun h => by rw [Bd.returns] at h; cases h)
  refine ⟨_, _, pre3 _ ?_, hrun, hended, _, _, rfl, ?_, ⟨_, rfl⟩, hW, hsame.mono (by decide) (by decide)⟩
  · show Steps p.tables e below (T2.setTop (mkF m 25 #[rv r0, .val u1, .val .null] [(.int (0 : Int32))])) _
    exact retN X2 hx (t := .boolean) Bd.returns (by simp) (hb hby d2_25) hr
  · show Q2a Z r0 u1 h0 n0 _ T2.heap _
    rw [e2]
    exact ⟨rfl, N0, rfl⟩
theorem d2_9 : decode prog_31_method_5_code 9 = .ok (.aload_n 2, 1) := by decide +kernel
theorem d2_10 : decode prog_31_method_5_code 10 = .ok (.aload_n 1, 1) := by decide +kernel
theorem d2_11 : decode prog_31_method_5_code 11 = .ok (.if_acmp .ne 5, 3) := by decide +kernel
theorem d2_14 : decode prog_31_method_5_code 14 = .ok (.iconst 1, 1) := by decide +kernel
theorem d2_15 : decode prog_31_method_5_code 15 = .ok (.ireturn, 1) := by decide +kernel
theorem d2_16 : decode prog_31_method_5_code 16 = .ok (.aload_n 2, 1) := by decide +kernel
theorem d2_17 : decode prog_31_method_5_code 17 = .ok (.getfield 61, 3) := by decide +kernel
theorem d2_20 : decode prog_31_method_5_code 20 = .ok (.astore_n 2, 1) := by decide +kernel
theorem d2_21 : decode prog_31_method_5_code 21 = .ok (.goto (-16), 3) := by decide +kernel
theorem ef_2b (m : MethodId) (x0 : Addr) (x1 : Value) (hr1 : x1.isRef = true) : entryFrame m #[(.ref x0), x1] 3 = mkF m 0 #[.val (.ref x0), .val x1, .unset] [] := by rcases ref_cases hr1 with rfl | ⟨_, rfl⟩ <;> first | (simp [entryFrame, mkF, argsToLocals, Value.category]; done) | rfl
def Q2b (Z : State) (r0 : Addr) (u1 : Value) (c1 : Addr) (h0 : Heap) (n0 : Nat) (v : Option Value) (h : Heap) (L : List Loc) : Prop := v = some (.int (own_l1 c1 u1)) ∧ Fr n0 L ∧ h = h0
set_option maxRecDepth 65536 in
set_option maxHeartbeats 40000000 in
theorem rm2b (l : Launch) (Z : State) (a0 : Array Value) (hw : ∀ d ∈ tables_1, d.before a0 Z = true) (ws : List Jvm.Cond) (r0 : Addr) (u1 : Value) (c1 : Addr) (h0 : Heap) (n0 : Nat) (Z0 : n0 ≤ h0.size) (hr_u1 : u1.isRef = true) (F_container_r0 : Fld Z h0 r0 "com/example/subject/subject/model/EntityType" "container" "Lcom/example/subject/subject/model/EntityType;" (.ref c1)) (F_container_c1 : Fld Z h0 c1 "com/example/subject/subject/model/EntityType" "container" "Lcom/example/subject/subject/model/EntityType;" .null) :
    MetFree l (⟨"com/example/subject/subject/model/EntityType", "livesIn", "(Lcom/example/subject/subject/model/EntityType;)Z"⟩ : MethodName) (head1 (Jvm.Cond.code (⟨"com/example/subject/subject/model/EntityType", "livesIn", "(Lcom/example/subject/subject/model/EntityType;)Z"⟩ : MethodName) prog_31_method_5_code 3 (some .boolean) :: ws) ({ frames := 0, cells := 0, slots := 0, locals := 0 } : Room)) (fun a U => a = #[(.ref r0), u1] ∧ Z.Warmed39 U.vm ∧ U.heap = h0) (fun _ _ _ _ _ => True) (fun _ U o U' => ∃ v L, o = .returned v ∧ Q2b Z r0 u1 c1 h0 n0 v U'.heap L ∧ FrameEnd U o U' L ({ frames := 0, cells := 0, slots := 0, locals := 0 } : Room).cells ({ frames := 0, cells := 0, slots := 0, locals := 0 } : Room).slots) := by
  refine MetFree.of_bodySF (plainFor_of_name pn1) hisR ?_
  intro p e s m args below meth c s₁ Bd hml0 hP hK
  obtain ⟨rfl, hZ, hh⟩ := hP
  have hx := Bd.exec
  have hby := Bd.bytes
  have hml : c.maxLocals = 3 := hml0
  have hown : s.vm.findClass "com/example/subject/subject/model/EntityType" = some m.cls := findClass_of_methodNamed Bd.named
  have hnm := (name_of_methodNamed Bd.named Bd.method).1
  have X0 : Stand p l e ({ frames := 0, cells := 0, slots := 0, locals := 0 } : Room) s m #[(.ref r0), u1] below meth c s₁ [] 0 0 := Stand.of_body Bd
  have e0 : s₁.heap = h0 := by rw [← hh, Bd.state]; rfl
  have N0 := Fr.nil n0
  have pre0 : ∀ t, Steps p.tables e below (s₁.setTop (mkF m 0 #[rv r0, .val u1, .unset] [])) t → Steps p.tables e below (s₁.setTop (entryFrame m #[(.ref r0), u1] 3)) t := fun t k => castTop (ef_2b m r0 u1 hr_u1) k
  have pre1 : ∀ t, Steps p.tables e below (s₁.setTop (mkF m 1 #[rv r0, .val u1, .unset] [(.ref r0)])) t → Steps p.tables e below (s₁.setTop (entryFrame m #[(.ref r0), u1] 3)) t := by
    intro t kt
    refine pre0 _ ?_
    show Steps p.tables e below (s₁.setTop (mkF m 0 #[rv r0, .val u1, .unset] [])) _
    refine XS.aloadN X0.here hx rfl (hb hby d2_0) rfl rfl ?_
    exact kt
  obtain ⟨T2, X2, e2, st2⟩ := getF X0 hx hZ hown (host := "") (Or.inl (hw _ (List.mem_of_getElem? (i := 15) rfl))) Via.refl e0 F_container_r0 (g := (mkF m 1 #[rv r0, .val u1, .unset] [(.ref r0)])) rfl rfl (hb hby d2_1)
  have pre3 : ∀ t, Steps p.tables e below (T2.setTop (mkF m 11 #[rv r0, .val u1, rv c1] [u1, (.ref c1)])) t → Steps p.tables e below (s₁.setTop (entryFrame m #[(.ref r0), u1] 3)) t := by
    intro t kt
    refine pre1 _ ?_
    show Steps p.tables e below (s₁.setTop (mkF m 1 #[rv r0, .val u1, .unset] [(.ref r0)])) _
    refine st2 _ ?_
    show Steps p.tables e below (T2.setTop (mkF m 4 #[rv r0, .val u1, .unset] [(.ref c1)])) _
    refine XS.astoreN X2.here hx rfl (hb hby d2_4) rfl rfl (l' := #[rv r0, .val u1, rv c1]) rfl ?_
    show Steps p.tables e below (T2.setTop (mkF m 5 #[rv r0, .val u1, rv c1] [])) _
    refine XS.aloadN X2.here hx rfl (hb hby d2_5) rfl rfl ?_
    show Steps p.tables e below (T2.setTop (mkF m 6 #[rv r0, .val u1, rv c1] [(.ref c1)])) _
    refine XS.ifnullNo X2.here hx rfl (hb hby d2_6) rfl ?_
    show Steps p.tables e below (T2.setTop (mkF m 9 #[rv r0, .val u1, rv c1] [])) _
    refine XS.aloadN X2.here hx rfl (hb hby d2_9) rfl rfl ?_
    show Steps p.tables e below (T2.setTop (mkF m 10 #[rv r0, .val u1, rv c1] [(.ref c1)])) _
    refine XS.aloadN X2.here hx rfl (hb hby d2_10) rfl hr_u1 ?_
    exact kt
  by_cases ha11 : ((.ref c1) : Value) = u1
  · have pre4 : ∀ t, Steps p.tables e below (T2.setTop (mkF m 15 #[rv r0, .val u1, rv c1] [(.int (1 : Int32))])) t → Steps p.tables e below (s₁.setTop (entryFrame m #[(.ref r0), u1] 3)) t := by
      intro t kt
      refine pre3 _ ?_
      show Steps p.tables e below (T2.setTop (mkF m 11 #[rv r0, .val u1, rv c1] [u1, (.ref c1)])) _
      refine Jvm.RoadKit.acmp (g := (mkF m 11 #[rv r0, .val u1, rv c1] [u1, (.ref c1)])) X2 hx rfl rfl hr_u1 (pc0 := 11) (pc' := 14) (same := true) rfl (hb hby d2_11) rfl (decide_eq_true ha11) (by decide) (by decide) ?_
      show Steps p.tables e below (T2.setTop (mkF m 14 #[rv r0, .val u1, rv c1] [])) _
      refine XS.iconst X2.here hx rfl (hb hby d2_14) ?_
      exact kt
    obtain ⟨fs, hr, hrun, hended, hW, hsame⟩ := X2.leave (v := some (.int (1 : Int32))) (fun h => by rw [Bd.returns] at h; cases h)
    refine ⟨_, _, pre4 _ ?_, hrun, hended, _, _, rfl, ?_, ⟨_, rfl⟩, hW, hsame.mono (by decide) (by decide)⟩
    · show Steps p.tables e below (T2.setTop (mkF m 15 #[rv r0, .val u1, rv c1] [(.int (1 : Int32))])) _
      exact retN X2 hx (t := .boolean) Bd.returns (by simp) (hb hby d2_15) hr
    · show Q2b Z r0 u1 c1 h0 n0 _ T2.heap _
      rw [e2]
      exact ⟨congrArg (fun z => some (Value.int z)) ((if_pos ha11).trans rfl).symm, N0, rfl⟩
  · have pre5 : ∀ t, Steps p.tables e below (T2.setTop (mkF m 17 #[rv r0, .val u1, rv c1] [(.ref c1)])) t → Steps p.tables e below (s₁.setTop (entryFrame m #[(.ref r0), u1] 3)) t := by
      intro t kt
      refine pre3 _ ?_
      show Steps p.tables e below (T2.setTop (mkF m 11 #[rv r0, .val u1, rv c1] [u1, (.ref c1)])) _
      refine Jvm.RoadKit.acmp (g := (mkF m 11 #[rv r0, .val u1, rv c1] [u1, (.ref c1)])) X2 hx rfl rfl hr_u1 (pc0 := 11) (pc' := 16) (same := false) rfl (hb hby d2_11) rfl (decide_eq_false ha11) (by decide) (by decide) ?_
      show Steps p.tables e below (T2.setTop (mkF m 16 #[rv r0, .val u1, rv c1] [])) _
      refine XS.aloadN X2.here hx rfl (hb hby d2_16) rfl rfl ?_
      exact kt
    obtain ⟨T6, X6, e6, st6⟩ := getF X2 hx hZ hown (host := "") (Or.inl (hw _ (List.mem_of_getElem? (i := 15) rfl))) Via.refl e2 F_container_c1 (g := (mkF m 17 #[rv r0, .val u1, rv c1] [(.ref c1)])) rfl rfl (hb hby d2_17)
    have pre7 : ∀ t, Steps p.tables e below (T6.setTop (mkF m 25 #[rv r0, .val u1, .val .null] [(.int (0 : Int32))])) t → Steps p.tables e below (s₁.setTop (entryFrame m #[(.ref r0), u1] 3)) t := by
      intro t kt
      refine pre5 _ ?_
      show Steps p.tables e below (T2.setTop (mkF m 17 #[rv r0, .val u1, rv c1] [(.ref c1)])) _
      refine st6 _ ?_
      show Steps p.tables e below (T6.setTop (mkF m 20 #[rv r0, .val u1, rv c1] [.null])) _
      refine XS.astoreN X6.here hx rfl (hb hby d2_20) rfl rfl (l' := #[rv r0, .val u1, .val .null]) rfl ?_
      show Steps p.tables e below (T6.setTop (mkF m 21 #[rv r0, .val u1, .val .null] [])) _
      refine XS.goto X6.here hx rfl (pc0 := 21) (pc' := 5) rfl (hb hby d2_21) (by decide) (by decide) ?_
      show Steps p.tables e below (T6.setTop (mkF m 5 #[rv r0, .val u1, .val .null] [])) _
      refine XS.aloadN X6.here hx rfl (hb hby d2_5) rfl rfl ?_
      show Steps p.tables e below (T6.setTop (mkF m 6 #[rv r0, .val u1, .val .null] [.null])) _
      refine XS.ifnullYes X6.here hx rfl (pc0 := 6) (pc' := 24) rfl (hb hby d2_6) rfl (by decide) (by decide) ?_
      show Steps p.tables e below (T6.setTop (mkF m 24 #[rv r0, .val u1, .val .null] [])) _
      refine XS.iconst X6.here hx rfl (hb hby d2_24) ?_
      exact kt
    obtain ⟨fs, hr, hrun, hended, hW, hsame⟩ := X6.leave (v := some (.int (0 : Int32))) (fun h => by rw [Bd.returns] at h; cases h)
    refine ⟨_, _, pre7 _ ?_, hrun, hended, _, _, rfl, ?_, ⟨_, rfl⟩, hW, hsame.mono (by decide) (by decide)⟩
    · show Steps p.tables e below (T6.setTop (mkF m 25 #[rv r0, .val u1, .val .null] [(.int (0 : Int32))])) _
      exact retN X6 hx (t := .boolean) Bd.returns (by simp) (hb hby d2_25) hr
    · show Q2b Z r0 u1 c1 h0 n0 _ T6.heap _
      rw [e6]
      exact ⟨congrArg (fun z => some (Value.int z)) ((if_neg ha11).trans rfl).symm, N0, rfl⟩

theorem ef_2c (m : MethodId) (x0 : Addr) (x1 : Value) (hr1 : x1.isRef = true) : entryFrame m #[(.ref x0), x1] 3 = mkF m 0 #[.val (.ref x0), .val x1, .unset] [] := by rcases ref_cases hr1 with rfl | ⟨_, rfl⟩ <;> first | (simp [entryFrame, mkF, argsToLocals, Value.category]; done) | rfl
def Q2c (Z : State) (r0 : Addr) (u1 : Value) (c1 : Addr) (c2 : Addr) (h0 : Heap) (n0 : Nat) (v : Option Value) (h : Heap) (L : List Loc) : Prop := v = some (.int (own_l2 c1 c2 u1)) ∧ Fr n0 L ∧ h = h0
set_option maxRecDepth 65536 in
set_option maxHeartbeats 40000000 in
theorem rm2c (l : Launch) (Z : State) (a0 : Array Value) (hw : ∀ d ∈ tables_1, d.before a0 Z = true) (ws : List Jvm.Cond) (r0 : Addr) (u1 : Value) (c1 : Addr) (c2 : Addr) (h0 : Heap) (n0 : Nat) (Z0 : n0 ≤ h0.size) (hr_u1 : u1.isRef = true) (F_container_r0 : Fld Z h0 r0 "com/example/subject/subject/model/EntityType" "container" "Lcom/example/subject/subject/model/EntityType;" (.ref c1)) (F_container_c1 : Fld Z h0 c1 "com/example/subject/subject/model/EntityType" "container" "Lcom/example/subject/subject/model/EntityType;" (.ref c2)) (F_container_c2 : Fld Z h0 c2 "com/example/subject/subject/model/EntityType" "container" "Lcom/example/subject/subject/model/EntityType;" .null) :
    MetFree l (⟨"com/example/subject/subject/model/EntityType", "livesIn", "(Lcom/example/subject/subject/model/EntityType;)Z"⟩ : MethodName) (head1 (Jvm.Cond.code (⟨"com/example/subject/subject/model/EntityType", "livesIn", "(Lcom/example/subject/subject/model/EntityType;)Z"⟩ : MethodName) prog_31_method_5_code 3 (some .boolean) :: ws) ({ frames := 0, cells := 0, slots := 0, locals := 0 } : Room)) (fun a U => a = #[(.ref r0), u1] ∧ Z.Warmed39 U.vm ∧ U.heap = h0) (fun _ _ _ _ _ => True) (fun _ U o U' => ∃ v L, o = .returned v ∧ Q2c Z r0 u1 c1 c2 h0 n0 v U'.heap L ∧ FrameEnd U o U' L ({ frames := 0, cells := 0, slots := 0, locals := 0 } : Room).cells ({ frames := 0, cells := 0, slots := 0, locals := 0 } : Room).slots) := by
  refine MetFree.of_bodySF (plainFor_of_name pn1) hisR ?_
  intro p e s m args below meth c s₁ Bd hml0 hP hK
  obtain ⟨rfl, hZ, hh⟩ := hP
  have hx := Bd.exec
  have hby := Bd.bytes
  have hml : c.maxLocals = 3 := hml0
  have hown : s.vm.findClass "com/example/subject/subject/model/EntityType" = some m.cls := findClass_of_methodNamed Bd.named
  have hnm := (name_of_methodNamed Bd.named Bd.method).1
  have X0 : Stand p l e ({ frames := 0, cells := 0, slots := 0, locals := 0 } : Room) s m #[(.ref r0), u1] below meth c s₁ [] 0 0 := Stand.of_body Bd
  have e0 : s₁.heap = h0 := by rw [← hh, Bd.state]; rfl
  have N0 := Fr.nil n0
  have pre0 : ∀ t, Steps p.tables e below (s₁.setTop (mkF m 0 #[rv r0, .val u1, .unset] [])) t → Steps p.tables e below (s₁.setTop (entryFrame m #[(.ref r0), u1] 3)) t := fun t k => castTop (ef_2c m r0 u1 hr_u1) k
  have pre1 : ∀ t, Steps p.tables e below (s₁.setTop (mkF m 1 #[rv r0, .val u1, .unset] [(.ref r0)])) t → Steps p.tables e below (s₁.setTop (entryFrame m #[(.ref r0), u1] 3)) t := by
    intro t kt
    refine pre0 _ ?_
    show Steps p.tables e below (s₁.setTop (mkF m 0 #[rv r0, .val u1, .unset] [])) _
    refine XS.aloadN X0.here hx rfl (hb hby d2_0) rfl rfl ?_
    exact kt
  obtain ⟨T2, X2, e2, st2⟩ := getF X0 hx hZ hown (host := "") (Or.inl (hw _ (List.mem_of_getElem? (i := 15) rfl))) Via.refl e0 F_container_r0 (g := (mkF m 1 #[rv r0, .val u1, .unset] [(.ref r0)])) rfl rfl (hb hby d2_1)
  have pre3 : ∀ t, Steps p.tables e below (T2.setTop (mkF m 11 #[rv r0, .val u1, rv c1] [u1, (.ref c1)])) t → Steps p.tables e below (s₁.setTop (entryFrame m #[(.ref r0), u1] 3)) t := by
    intro t kt
    refine pre1 _ ?_
    show Steps p.tables e below (s₁.setTop (mkF m 1 #[rv r0, .val u1, .unset] [(.ref r0)])) _
    refine st2 _ ?_
    show Steps p.tables e below (T2.setTop (mkF m 4 #[rv r0, .val u1, .unset] [(.ref c1)])) _
    refine XS.astoreN X2.here hx rfl (hb hby d2_4) rfl rfl (l' := #[rv r0, .val u1, rv c1]) rfl ?_
    show Steps p.tables e below (T2.setTop (mkF m 5 #[rv r0, .val u1, rv c1] [])) _
    refine XS.aloadN X2.here hx rfl (hb hby d2_5) rfl rfl ?_
    show Steps p.tables e below (T2.setTop (mkF m 6 #[rv r0, .val u1, rv c1] [(.ref c1)])) _
    refine XS.ifnullNo X2.here hx rfl (hb hby d2_6) rfl ?_
    show Steps p.tables e below (T2.setTop (mkF m 9 #[rv r0, .val u1, rv c1] [])) _
    refine XS.aloadN X2.here hx rfl (hb hby d2_9) rfl rfl ?_
    show Steps p.tables e below (T2.setTop (mkF m 10 #[rv r0, .val u1, rv c1] [(.ref c1)])) _
    refine XS.aloadN X2.here hx rfl (hb hby d2_10) rfl hr_u1 ?_
    exact kt
  by_cases ha11 : ((.ref c1) : Value) = u1
  · have pre4 : ∀ t, Steps p.tables e below (T2.setTop (mkF m 15 #[rv r0, .val u1, rv c1] [(.int (1 : Int32))])) t → Steps p.tables e below (s₁.setTop (entryFrame m #[(.ref r0), u1] 3)) t := by
      intro t kt
      refine pre3 _ ?_
      show Steps p.tables e below (T2.setTop (mkF m 11 #[rv r0, .val u1, rv c1] [u1, (.ref c1)])) _
      refine Jvm.RoadKit.acmp (g := (mkF m 11 #[rv r0, .val u1, rv c1] [u1, (.ref c1)])) X2 hx rfl rfl hr_u1 (pc0 := 11) (pc' := 14) (same := true) rfl (hb hby d2_11) rfl (decide_eq_true ha11) (by decide) (by decide) ?_
      show Steps p.tables e below (T2.setTop (mkF m 14 #[rv r0, .val u1, rv c1] [])) _
      refine XS.iconst X2.here hx rfl (hb hby d2_14) ?_
      exact kt
    obtain ⟨fs, hr, hrun, hended, hW, hsame⟩ := X2.leave (v := some (.int (1 : Int32))) (fun h => by rw [Bd.returns] at h; cases h)
    refine ⟨_, _, pre4 _ ?_, hrun, hended, _, _, rfl, ?_, ⟨_, rfl⟩, hW, hsame.mono (by decide) (by decide)⟩
    · show Steps p.tables e below (T2.setTop (mkF m 15 #[rv r0, .val u1, rv c1] [(.int (1 : Int32))])) _
      exact retN X2 hx (t := .boolean) Bd.returns (by simp) (hb hby d2_15) hr
    · show Q2c Z r0 u1 c1 c2 h0 n0 _ T2.heap _
      rw [e2]
      exact ⟨congrArg (fun z => some (Value.int z)) ((if_pos ha11).trans rfl).symm, N0, rfl⟩
  · have pre5 : ∀ t, Steps p.tables e below (T2.setTop (mkF m 17 #[rv r0, .val u1, rv c1] [(.ref c1)])) t → Steps p.tables e below (s₁.setTop (entryFrame m #[(.ref r0), u1] 3)) t := by
      intro t kt
      refine pre3 _ ?_
      show Steps p.tables e below (T2.setTop (mkF m 11 #[rv r0, .val u1, rv c1] [u1, (.ref c1)])) _
      refine Jvm.RoadKit.acmp (g := (mkF m 11 #[rv r0, .val u1, rv c1] [u1, (.ref c1)])) X2 hx rfl rfl hr_u1 (pc0 := 11) (pc' := 16) (same := false) rfl (hb hby d2_11) rfl (decide_eq_false ha11) (by decide) (by decide) ?_
      show Steps p.tables e below (T2.setTop (mkF m 16 #[rv r0, .val u1, rv c1] [])) _
      refine XS.aloadN X2.here hx rfl (hb hby d2_16) rfl rfl ?_
      exact kt
    obtain ⟨T6, X6, e6, st6⟩ := getF X2 hx hZ hown (host := "") (Or.inl (hw _ (List.mem_of_getElem? (i := 15) rfl))) Via.refl e2 F_container_c1 (g := (mkF m 17 #[rv r0, .val u1, rv c1] [(.ref c1)])) rfl rfl (hb hby d2_17)
    have pre7 : ∀ t, Steps p.tables e below (T6.setTop (mkF m 11 #[rv r0, .val u1, rv c2] [u1, (.ref c2)])) t → Steps p.tables e below (s₁.setTop (entryFrame m #[(.ref r0), u1] 3)) t := by
      intro t kt
      refine pre5 _ ?_
      show Steps p.tables e below (T2.setTop (mkF m 17 #[rv r0, .val u1, rv c1] [(.ref c1)])) _
      refine st6 _ ?_
      show Steps p.tables e below (T6.setTop (mkF m 20 #[rv r0, .val u1, rv c1] [(.ref c2)])) _
      refine XS.astoreN X6.here hx rfl (hb hby d2_20) rfl rfl (l' := #[rv r0, .val u1, rv c2]) rfl ?_
      show Steps p.tables e below (T6.setTop (mkF m 21 #[rv r0, .val u1, rv c2] [])) _
      refine XS.goto X6.here hx rfl (pc0 := 21) (pc' := 5) rfl (hb hby d2_21) (by decide) (by decide) ?_
      show Steps p.tables e below (T6.setTop (mkF m 5 #[rv r0, .val u1, rv c2] [])) _
      refine XS.aloadN X6.here hx rfl (hb hby d2_5) rfl rfl ?_
      show Steps p.tables e below (T6.setTop (mkF m 6 #[rv r0, .val u1, rv c2] [(.ref c2)])) _
      refine XS.ifnullNo X6.here hx rfl (hb hby d2_6) rfl ?_
      show Steps p.tables e below (T6.setTop (mkF m 9 #[rv r0, .val u1, rv c2] [])) _
      refine XS.aloadN X6.here hx rfl (hb hby d2_9) rfl rfl ?_
      show Steps p.tables e below (T6.setTop (mkF m 10 #[rv r0, .val u1, rv c2] [(.ref c2)])) _
      refine XS.aloadN X6.here hx rfl (hb hby d2_10) rfl hr_u1 ?_
      exact kt
    by_cases ha11_8 : ((.ref c2) : Value) = u1
    · have pre9 : ∀ t, Steps p.tables e below (T6.setTop (mkF m 15 #[rv r0, .val u1, rv c2] [(.int (1 : Int32))])) t → Steps p.tables e below (s₁.setTop (entryFrame m #[(.ref r0), u1] 3)) t := by
        intro t kt
        refine pre7 _ ?_
        show Steps p.tables e below (T6.setTop (mkF m 11 #[rv r0, .val u1, rv c2] [u1, (.ref c2)])) _
        refine Jvm.RoadKit.acmp (g := (mkF m 11 #[rv r0, .val u1, rv c2] [u1, (.ref c2)])) X6 hx rfl rfl hr_u1 (pc0 := 11) (pc' := 14) (same := true) rfl (hb hby d2_11) rfl (decide_eq_true ha11_8) (by decide) (by decide) ?_
        show Steps p.tables e below (T6.setTop (mkF m 14 #[rv r0, .val u1, rv c2] [])) _
        refine XS.iconst X6.here hx rfl (hb hby d2_14) ?_
        exact kt
      obtain ⟨fs, hr, hrun, hended, hW, hsame⟩ := X6.leave (v := some (.int (1 : Int32))) (fun h => by rw [Bd.returns] at h; cases h)
      refine ⟨_, _, pre9 _ ?_, hrun, hended, _, _, rfl, ?_, ⟨_, rfl⟩, hW, hsame.mono (by decide) (by decide)⟩
      · show Steps p.tables e below (T6.setTop (mkF m 15 #[rv r0, .val u1, rv c2] [(.int (1 : Int32))])) _
        exact retN X6 hx (t := .boolean) Bd.returns (by simp) (hb hby d2_15) hr
      · show Q2c Z r0 u1 c1 c2 h0 n0 _ T6.heap _
        rw [e6]
        exact ⟨congrArg (fun z => some (Value.int z)) ((if_neg ha11).trans ((if_pos ha11_8).trans rfl)).symm, N0, rfl⟩
    · have pre10 : ∀ t, Steps p.tables e below (T6.setTop (mkF m 17 #[rv r0, .val u1, rv c2] [(.ref c2)])) t → Steps p.tables e below (s₁.setTop (entryFrame m #[(.ref r0), u1] 3)) t := by
        intro t kt
        refine pre7 _ ?_
        show Steps p.tables e below (T6.setTop (mkF m 11 #[rv r0, .val u1, rv c2] [u1, (.ref c2)])) _
        refine Jvm.RoadKit.acmp (g := (mkF m 11 #[rv r0, .val u1, rv c2] [u1, (.ref c2)])) X6 hx rfl rfl hr_u1 (pc0 := 11) (pc' := 16) (same := false) rfl (hb hby d2_11) rfl (decide_eq_false ha11_8) (by decide) (by decide) ?_
        show Steps p.tables e below (T6.setTop (mkF m 16 #[rv r0, .val u1, rv c2] [])) _
        refine XS.aloadN X6.here hx rfl (hb hby d2_16) rfl rfl ?_
        exact kt
      obtain ⟨T11, X11, e11, st11⟩ := getF X6 hx hZ hown (host := "") (Or.inl (hw _ (List.mem_of_getElem? (i := 15) rfl))) Via.refl e6 F_container_c2 (g := (mkF m 17 #[rv r0, .val u1, rv c2] [(.ref c2)])) rfl rfl (hb hby d2_17)
      have pre12 : ∀ t, Steps p.tables e below (T11.setTop (mkF m 25 #[rv r0, .val u1, .val .null] [(.int (0 : Int32))])) t → Steps p.tables e below (s₁.setTop (entryFrame m #[(.ref r0), u1] 3)) t := by
        intro t kt
        refine pre10 _ ?_
        show Steps p.tables e below (T6.setTop (mkF m 17 #[rv r0, .val u1, rv c2] [(.ref c2)])) _
        refine st11 _ ?_
        show Steps p.tables e below (T11.setTop (mkF m 20 #[rv r0, .val u1, rv c2] [.null])) _
        refine XS.astoreN X11.here hx rfl (hb hby d2_20) rfl rfl (l' := #[rv r0, .val u1, .val .null]) rfl ?_
        show Steps p.tables e below (T11.setTop (mkF m 21 #[rv r0, .val u1, .val .null] [])) _
        refine XS.goto X11.here hx rfl (pc0 := 21) (pc' := 5) rfl (hb hby d2_21) (by decide) (by decide) ?_
        show Steps p.tables e below (T11.setTop (mkF m 5 #[rv r0, .val u1, .val .null] [])) _
        refine XS.aloadN X11.here hx rfl (hb hby d2_5) rfl rfl ?_
        show Steps p.tables e below (T11.setTop (mkF m 6 #[rv r0, .val u1, .val .null] [.null])) _
        refine XS.ifnullYes X11.here hx rfl (pc0 := 6) (pc' := 24) rfl (hb hby d2_6) rfl (by decide) (by decide) ?_
        show Steps p.tables e below (T11.setTop (mkF m 24 #[rv r0, .val u1, .val .null] [])) _
        refine XS.iconst X11.here hx rfl (hb hby d2_24) ?_
        exact kt
      obtain ⟨fs, hr, hrun, hended, hW, hsame⟩ := X11.leave (v := some (.int (0 : Int32))) (fun h => by rw [Bd.returns] at h; cases h)
      refine ⟨_, _, pre12 _ ?_, hrun, hended, _, _, rfl, ?_, ⟨_, rfl⟩, hW, hsame.mono (by decide) (by decide)⟩
      · show Steps p.tables e below (T11.setTop (mkF m 25 #[rv r0, .val u1, .val .null] [(.int (0 : Int32))])) _
        exact retN X11 hx (t := .boolean) Bd.returns (by simp) (hb hby d2_25) hr
      · show Q2c Z r0 u1 c1 c2 h0 n0 _ T11.heap _
        rw [e11]
        exact ⟨congrArg (fun z => some (Value.int z)) ((if_neg ha11).trans ((if_neg ha11_8).trans rfl)).symm, N0, rfl⟩
theorem pd2 : parseMethodDescriptor "(I)Lcom/example/subject/subject/model/EntityType;" = some ⟨[.int], some (.object "com/example/subject/subject/model/EntityType")⟩ := by decide +kernel
theorem pd3 : parseMethodDescriptor "(Lcom/example/subject/subject/model/EntityType;)Z" = some ⟨[(.object "com/example/subject/subject/model/EntityType")], some .boolean⟩ := by decide +kernel
theorem ef_0 (m : MethodId) (x0 : Int32) (x1 : Int32) : entryFrame m #[(.int x0), (.int x1)] maxLocals = mkF m 0 #[.val (.int x0), .val (.int x1), .unset, .unset, .unset, .unset, .unset] [] := by first | (simp [entryFrame, mkF, argsToLocals, Value.category, maxLocals]; done) | rfl
def Q0 (Z : State) (p0 : Int32) (p1 : Int32) (el : Nat → Addr) (h0 : Heap) (n0 : Nat) (v : Option Value) (h : Heap) (L : List Loc) : Prop := v = some (.int 1) ∧ Fr n0 L
set_option maxRecDepth 65536 in
set_option maxHeartbeats 40000000 in
theorem rm0 (l : Launch) (Z : State) (a0 : Array Value) (hw : ∀ d ∈ tables_1, d.before a0 Z = true) (ws : List Jvm.Cond) (p0 : Int32) (p1 : Int32) (el : Nat → Addr) (h0 : Heap) (n0 : Nat) (Z0 : n0 ≤ h0.size) (O0 : Old Z n0 h0) (S_NAMESPACE : Sta Z Z.heap "com/example/subject/subject/model/EntityType" "NAMESPACE" "Lcom/example/subject/subject/model/EntityType;" (.ref (el 0))) (S_APPLICATION : Sta Z Z.heap "com/example/subject/subject/model/EntityType" "APPLICATION" "Lcom/example/subject/subject/model/EntityType;" (.ref (el 1))) (S_PROGRAM : Sta Z Z.heap "com/example/subject/subject/model/EntityType" "PROGRAM" "Lcom/example/subject/subject/model/EntityType;" (.ref (el 2))) (S_DATASET : Sta Z Z.heap "com/example/subject/subject/model/EntityType" "DATASET" "Lcom/example/subject/subject/model/EntityType;" (.ref (el 3))) (S_STREAM : Sta Z Z.heap "com/example/subject/subject/model/EntityType" "STREAM" "Lcom/example/subject/subject/model/EntityType;" (.ref (el 4))) (S_ARTIFACT : Sta Z Z.heap "com/example/subject/subject/model/EntityType" "ARTIFACT" "Lcom/example/subject/subject/model/EntityType;" (.ref (el 5))) (S_DATASET_TYPE : Sta Z Z.heap "com/example/subject/subject/model/EntityType" "DATASET_TYPE" "Lcom/example/subject/subject/model/EntityType;" (.ref (el 6))) (S_DATASET_MODULE : Sta Z Z.heap "com/example/subject/subject/model/EntityType" "DATASET_MODULE" "Lcom/example/subject/subject/model/EntityType;" (.ref (el 7))) (S_SECUREKEY : Sta Z Z.heap "com/example/subject/subject/model/EntityType" "SECUREKEY" "Lcom/example/subject/subject/model/EntityType;" (.ref (el 8))) (S_KERBEROSPRINCIPAL : Sta Z Z.heap "com/example/subject/subject/model/EntityType" "KERBEROSPRINCIPAL" "Lcom/example/subject/subject/model/EntityType;" (.ref (el 9))) (hE : ∀ j, j < 10 → Exa Z h0 (el j) "com/example/subject/subject/model/EntityType") (hA : ∀ j, j = 0 ∨ j = 9 → Fld Z h0 (el j) "com/example/subject/subject/model/EntityType" "container" "Lcom/example/subject/subject/model/EntityType;" .null) (hB : ∀ j, 1 ≤ j ∧ j ≤ 8 ∧ j ≠ 2 → Fld Z h0 (el j) "com/example/subject/subject/model/EntityType" "container" "Lcom/example/subject/subject/model/EntityType;" (.ref (el 0))) (hC : Fld Z h0 (el 2) "com/example/subject/subject/model/EntityType" "container" "Lcom/example/subject/subject/model/EntityType;" (.ref (el 1))) (hinj : ∀ j k, j < 10 → k < 10 → el j = el k → j = k) :
    MetFree l x (head1 (Jvm.Cond.code x code maxLocals ret :: ws) room_1) (fun a U => a = #[(.int p0), (.int p1)] ∧ Z.Warmed39 U.vm ∧ U.heap = h0) (fun _ _ _ _ _ => True) (fun _ U o U' => ∃ v L, o = .returned v ∧ Q0 Z p0 p1 el h0 n0 v U'.heap L ∧ FrameEnd U o U' L room_1.cells room_1.slots) := by
  refine MetFree.of_bodySF (plainFor_of_name pn0) hisR ?_
  intro p e s m args below meth c s₁ Bd hml0 hP hK
  obtain ⟨rfl, hZ, hh⟩ := hP
  have hx := Bd.exec
  have hby := Bd.bytes
  have hml : c.maxLocals = 7 := hml0
  have hown : s.vm.findClass "com/example/subject/subject/model/EntityTypeLivesInPinLaw" = some m.cls := findClass_of_methodNamed Bd.named
  have hnm := (name_of_methodNamed Bd.named Bd.method).1
  have X0 : Stand p l e room_1 s m #[(.int p0), (.int p1)] below meth c s₁ [] 0 0 := Stand.of_body Bd
  have e0 : s₁.heap = h0 := by rw [← hh, Bd.state]; rfl
  have N0 := Fr.nil n0
  have pre0 : ∀ t, Steps p.tables e below (s₁.setTop (mkF m 0 #[iv p0, iv p1, .unset, .unset, .unset, .unset, .unset] [])) t → Steps p.tables e below (s₁.setTop (entryFrame m #[(.int p0), (.int p1)] maxLocals)) t := fun t k => castTop (ef_0 m p0 p1) k
  obtain ⟨i, h_i⟩ : ∃ z : Int32, z = ((p0 &&& (2147483647 : Int32)) % (10 : Int32)) := ⟨_, rfl⟩
  obtain ⟨o, h_o⟩ : ∃ z : Int32, z = ((p1 &&& (2147483647 : Int32)) % (11 : Int32)) := ⟨_, rfl⟩
  have pre1 : ∀ t, Steps p.tables e below (s₁.setTop (mkF m 17 #[iv p0, iv p1, iv i, iv o, .unset, .unset, .unset] [(.int i)])) t → Steps p.tables e below (s₁.setTop (entryFrame m #[(.int p0), (.int p1)] maxLocals)) t := by
    intro t kt
    refine pre0 _ ?_
    show Steps p.tables e below (s₁.setTop (mkF m 0 #[iv p0, iv p1, .unset, .unset, .unset, .unset, .unset] [])) _
    refine XS.iloadN X0.here hx rfl (hb hby at_0) rfl ?_
    show Steps p.tables e below (s₁.setTop (mkF m 1 #[iv p0, iv p1, .unset, .unset, .unset, .unset, .unset] [(.int p0)])) _
    refine X0.ldcInt hx hown (mvT hZ (hw _ (List.mem_of_getElem? (i := 0) rfl))) (g := (mkF m 1 #[iv p0, iv p1, .unset, .unset, .unset, .unset, .unset] [(.int p0)])) rfl (hb hby at_1) _ ?_
    show Steps p.tables e below (s₁.setTop (mkF m 3 #[iv p0, iv p1, .unset, .unset, .unset, .unset, .unset] [(.int (2147483647 : Int32)), (.int p0)])) _
    refine XS.iand X0.here hx rfl (hb hby at_3) rfl ?_
    show Steps p.tables e below (s₁.setTop (mkF m 4 #[iv p0, iv p1, .unset, .unset, .unset, .unset, .unset] [(.int (p0 &&& (2147483647 : Int32)))])) _
    refine XS.bipush X0.here hx rfl (hb hby at_4) ?_
    show Steps p.tables e below (s₁.setTop (mkF m 6 #[iv p0, iv p1, .unset, .unset, .unset, .unset, .unset] [(.int (10 : Int32)), (.int (p0 &&& (2147483647 : Int32)))])) _
    refine iremM X0 hx rfl (hb hby at_6) rfl (by decide) ?_
    show Steps p.tables e below (s₁.setTop (mkF m 7 #[iv p0, iv p1, .unset, .unset, .unset, .unset, .unset] [(.int ((p0 &&& (2147483647 : Int32)) % (10 : Int32)))])) _
    refine XS.istoreN X0.here hx rfl (hb hby at_7) rfl (l' := #[iv p0, iv p1, iv ((p0 &&& (2147483647 : Int32)) % (10 : Int32)), .unset, .unset, .unset, .unset]) rfl ?_
    show Steps p.tables e below (s₁.setTop (mkF m 8 #[iv p0, iv p1, iv ((p0 &&& (2147483647 : Int32)) % (10 : Int32)), .unset, .unset, .unset, .unset] [])) _
    rw [← h_i]
    show Steps p.tables e below (s₁.setTop (mkF m 8 #[iv p0, iv p1, iv i, .unset, .unset, .unset, .unset] [])) _
    refine XS.iloadN X0.here hx rfl (hb hby at_8) rfl ?_
    show Steps p.tables e below (s₁.setTop (mkF m 9 #[iv p0, iv p1, iv i, .unset, .unset, .unset, .unset] [(.int p1)])) _
    refine X0.ldcInt hx hown (mvT hZ (hw _ (List.mem_of_getElem? (i := 0) rfl))) (g := (mkF m 9 #[iv p0, iv p1, iv i, .unset, .unset, .unset, .unset] [(.int p1)])) rfl (hb hby at_9) _ ?_
    show Steps p.tables e below (s₁.setTop (mkF m 11 #[iv p0, iv p1, iv i, .unset, .unset, .unset, .unset] [(.int (2147483647 : Int32)), (.int p1)])) _
    refine XS.iand X0.here hx rfl (hb hby at_11) rfl ?_
    show Steps p.tables e below (s₁.setTop (mkF m 12 #[iv p0, iv p1, iv i, .unset, .unset, .unset, .unset] [(.int (p1 &&& (2147483647 : Int32)))])) _
    refine XS.bipush X0.here hx rfl (hb hby at_12) ?_
    show Steps p.tables e below (s₁.setTop (mkF m 14 #[iv p0, iv p1, iv i, .unset, .unset, .unset, .unset] [(.int (11 : Int32)), (.int (p1 &&& (2147483647 : Int32)))])) _
    refine iremM X0 hx rfl (hb hby at_14) rfl (by decide) ?_
    show Steps p.tables e below (s₁.setTop (mkF m 15 #[iv p0, iv p1, iv i, .unset, .unset, .unset, .unset] [(.int ((p1 &&& (2147483647 : Int32)) % (11 : Int32)))])) _
    refine XS.istoreN X0.here hx rfl (hb hby at_15) rfl (l' := #[iv p0, iv p1, iv i, iv ((p1 &&& (2147483647 : Int32)) % (11 : Int32)), .unset, .unset, .unset]) rfl ?_
    show Steps p.tables e below (s₁.setTop (mkF m 16 #[iv p0, iv p1, iv i, iv ((p1 &&& (2147483647 : Int32)) % (11 : Int32)), .unset, .unset, .unset] [])) _
    rw [← h_o]
    show Steps p.tables e below (s₁.setTop (mkF m 16 #[iv p0, iv p1, iv i, iv o, .unset, .unset, .unset] [])) _
    refine XS.iloadN X0.here hx rfl (hb hby at_16) rfl ?_
    exact kt
  obtain ⟨_, _, ⟨T2, L2, k2, n2⟩, -, X2, ⟨Lc2, hQ2, l2, y2, z2⟩, st2⟩ := Jvm.LawKit.callS X0 hx (y := (⟨"com/example/subject/subject/model/EntityTypeLivesInPinLaw", "type", "(I)Lcom/example/subject/subject/model/EntityType;"⟩ : MethodName)) hown (mvT hZ (hw _ (List.mem_of_getElem? (i := 1) rfl))) (mvT hZ (hw _ (List.mem_of_getElem? (i := 2) rfl))) (mvT hZ (hw _ (List.mem_of_getElem? (i := 3) rfl))) (mvT hZ (hw _ (List.mem_of_getElem? (i := 4) rfl))) (by decide) (backOf (W := 0) (rm1 l Z a0 hw [] i el h0 n0 (Nat.le_trans Z0 (Keep.refl h0 []).1) (O0.keep (Keep.refl h0 []) all0) S_NAMESPACE S_APPLICATION S_PROGRAM S_DATASET S_STREAM S_ARTIFACT S_DATASET_TYPE S_DATASET_MODULE S_SECUREKEY S_KERBEROSPRINCIPAL) hZ (hw _ (List.mem_of_getElem? (i := 4) rfl)) (hw _ (List.mem_of_getElem? (i := 3) rfl)) (by decide) (by decide)) (g := (mkF m 17 #[iv p0, iv p1, iv i, iv o, .unset, .unset, .unset] [(.int i)])) rfl (by rw [hml]; rfl) (argsL := [(.int i)]) (rest := []) (lenOf pd2 rfl) rfl (by show 2 * 0 + _ ≤ _; exact Nat.le_of_eq rfl) (hb hby at_17) (fun _ _ => ⟨rfl, e0, (by decide : 0 + 0 ≤ _), (by decide : 0 + 0 ≤ _)⟩)
  dsimp only [Pt.U, Pt.locs, Pt.cells, Pt.slots] at X2 l2 y2 z2 st2 hQ2
  subst l2 y2 z2
  obtain ⟨rfl, N2q, hh2⟩ := hQ2
  have N2 := Fr.app N0 N2q
  have pre3 : ∀ t, Steps p.tables e below (T2.setTop (mkF m 20 #[iv p0, iv p1, iv i, iv o, .unset, .unset, .unset] [(own_ty el i)])) t → Steps p.tables e below (s₁.setTop (entryFrame m #[(.int p0), (.int p1)] maxLocals)) t := by
    intro t kt
    refine pre1 _ ?_
    show Steps p.tables e below (s₁.setTop (mkF m 17 #[iv p0, iv p1, iv i, iv o, .unset, .unset, .unset] [(.int i)])) _
    refine st2 _ ?_
    exact kt
  rcases own_cases el i (h_i ▸ own_rem p0 10 10 (by decide) (by decide)) with ⟨j, hj, hk, hty⟩ | ⟨j, hj, hk, hty⟩ | ⟨hk, hty⟩
  · have pre4 : ∀ t, Steps p.tables e below (T2.setTop (mkF m 23 #[iv p0, iv p1, iv i, iv o, rv (el j), .unset, .unset] [(.int o)])) t → Steps p.tables e below (s₁.setTop (entryFrame m #[(.int p0), (.int p1)] maxLocals)) t := by
      intro t kt
      refine pre3 _ ?_
      show Steps p.tables e below (T2.setTop (mkF m 20 #[iv p0, iv p1, iv i, iv o, .unset, .unset, .unset] [(own_ty el i)])) _
      rw [hty]
      show Steps p.tables e below (T2.setTop (mkF m 20 #[iv p0, iv p1, iv i, iv o, .unset, .unset, .unset] [(.ref (el j))])) _
      refine XS.astore X2.here hx rfl (hb hby at_20) rfl rfl (l' := #[iv p0, iv p1, iv i, iv o, rv (el j), .unset, .unset]) rfl ?_
      show Steps p.tables e below (T2.setTop (mkF m 22 #[iv p0, iv p1, iv i, iv o, rv (el j), .unset, .unset] [])) _
      refine XS.iloadN X2.here hx rfl (hb hby at_22) rfl ?_
      exact kt
    obtain ⟨_, _, ⟨T5, L5, k5, n5⟩, -, X5, ⟨Lc5, hQ5, l5, y5, z5⟩, st5⟩ := Jvm.LawKit.callS X2 hx (y := (⟨"com/example/subject/subject/model/EntityTypeLivesInPinLaw", "type", "(I)Lcom/example/subject/subject/model/EntityType;"⟩ : MethodName)) hown (mvT hZ (hw _ (List.mem_of_getElem? (i := 1) rfl))) (mvT hZ (hw _ (List.mem_of_getElem? (i := 2) rfl))) (mvT hZ (hw _ (List.mem_of_getElem? (i := 3) rfl))) (mvT hZ (hw _ (List.mem_of_getElem? (i := 4) rfl))) (by decide) (backOf (W := 0) (rm1 l Z a0 hw [] o el h0 n0 (Nat.le_trans Z0 (Keep.refl h0 []).1) (O0.keep (Keep.refl h0 []) all0) S_NAMESPACE S_APPLICATION S_PROGRAM S_DATASET S_STREAM S_ARTIFACT S_DATASET_TYPE S_DATASET_MODULE S_SECUREKEY S_KERBEROSPRINCIPAL) hZ (hw _ (List.mem_of_getElem? (i := 4) rfl)) (hw _ (List.mem_of_getElem? (i := 3) rfl)) (by decide) (by decide)) (g := (mkF m 23 #[iv p0, iv p1, iv i, iv o, rv (el j), .unset, .unset] [(.int o)])) rfl (by rw [hml]; rfl) (argsL := [(.int o)]) (rest := []) (lenOf pd2 rfl) rfl (by show 2 * 0 + _ ≤ _; exact Nat.le_of_eq rfl) (hb hby at_23) (fun _ _ => ⟨rfl, hh2, (by decide : 0 + 0 ≤ _), (by decide : 0 + 0 ≤ _)⟩)
    dsimp only [Pt.U, Pt.locs, Pt.cells, Pt.slots] at X5 l5 y5 z5 st5 hQ5
    subst l5 y5 z5
    obtain ⟨rfl, N5q, hh5⟩ := hQ5
    have N5 := Fr.app N2 N5q
    have pre6 : ∀ t, Steps p.tables e below (T5.setTop (mkF m 28 #[iv p0, iv p1, iv i, iv o, rv (el j), .val (own_ty el o), .unset] [])) t → Steps p.tables e below (s₁.setTop (entryFrame m #[(.int p0), (.int p1)] maxLocals)) t := by
      intro t kt
      refine pre4 _ ?_
      show Steps p.tables e below (T2.setTop (mkF m 23 #[iv p0, iv p1, iv i, iv o, rv (el j), .unset, .unset] [(.int o)])) _
      refine st5 _ ?_
      show Steps p.tables e below (T5.setTop (mkF m 26 #[iv p0, iv p1, iv i, iv o, rv (el j), .unset, .unset] [(own_ty el o)])) _
      refine XS.astore X5.here hx rfl (hb hby at_26) rfl (own_isref el o (h_o ▸ own_rem p1 11 11 (by decide) (by decide))) (l' := #[iv p0, iv p1, iv i, iv o, rv (el j), .val (own_ty el o), .unset]) (by rcases ref_cases (own_isref el o (h_o ▸ own_rem p1 11 11 (by decide) (by decide))) with q | ⟨_, q⟩ <;> rw [q] <;> rfl) ?_
      exact kt
    obtain ⟨exp, hexp, pre27⟩ : ∃ (exp : Int32), (((o = (0 : Int32)) ∧ (i < (1 : Int32)) ∧ (o = (1 : Int32)) ∧ (i = (2 : Int32)) ∧ exp = (1 : Int32)) ∨ ((o = (0 : Int32)) ∧ (i < (1 : Int32)) ∧ (o = (1 : Int32)) ∧ (¬ (i = (2 : Int32))) ∧ exp = (0 : Int32)) ∨ ((o = (0 : Int32)) ∧ (i < (1 : Int32)) ∧ (¬ (o = (1 : Int32))) ∧ exp = (0 : Int32)) ∨ ((o = (0 : Int32)) ∧ (¬ (i < (1 : Int32))) ∧ ((8 : Int32) < i) ∧ (o = (1 : Int32)) ∧ (i = (2 : Int32)) ∧ exp = (1 : Int32)) ∨ ((o = (0 : Int32)) ∧ (¬ (i < (1 : Int32))) ∧ ((8 : Int32) < i) ∧ (o = (1 : Int32)) ∧ (¬ (i = (2 : Int32))) ∧ exp = (0 : Int32)) ∨ ((o = (0 : Int32)) ∧ (¬ (i < (1 : Int32))) ∧ ((8 : Int32) < i) ∧ (¬ (o = (1 : Int32))) ∧ exp = (0 : Int32)) ∨ ((o = (0 : Int32)) ∧ (¬ (i < (1 : Int32))) ∧ (¬ ((8 : Int32) < i)) ∧ exp = (1 : Int32)) ∨ ((¬ (o = (0 : Int32))) ∧ (o = (1 : Int32)) ∧ (i = (2 : Int32)) ∧ exp = (1 : Int32)) ∨ ((¬ (o = (0 : Int32))) ∧ (o = (1 : Int32)) ∧ (¬ (i = (2 : Int32))) ∧ exp = (0 : Int32)) ∨ ((¬ (o = (0 : Int32))) ∧ (¬ (o = (1 : Int32))) ∧ exp = (0 : Int32))) ∧ ∀ t, Steps p.tables e below (T5.setTop (mkF m 58 #[iv p0, iv p1, iv i, iv o, rv (el j), .val (own_ty el o), .unset] [(.int exp)])) t → Steps p.tables e below (s₁.setTop (entryFrame m #[(.int p0), (.int p1)] maxLocals)) t := by
      have pre7 : ∀ t, Steps p.tables e below (T5.setTop (mkF m 29 #[iv p0, iv p1, iv i, iv o, rv (el j), .val (own_ty el o), .unset] [(.int o)])) t → Steps p.tables e below (s₁.setTop (entryFrame m #[(.int p0), (.int p1)] maxLocals)) t := by
        intro t kt
        refine pre6 _ ?_
        show Steps p.tables e below (T5.setTop (mkF m 28 #[iv p0, iv p1, iv i, iv o, rv (el j), .val (own_ty el o), .unset] [])) _
        refine XS.iloadN X5.here hx rfl (hb hby at_28) rfl ?_
        exact kt
      by_cases hc29 : o = (0 : Int32)
      · have pre8 : ∀ t, Steps p.tables e below (T5.setTop (mkF m 34 #[iv p0, iv p1, iv i, iv o, rv (el j), .val (own_ty el o), .unset] [(.int (1 : Int32)), (.int i)])) t → Steps p.tables e below (s₁.setTop (entryFrame m #[(.int p0), (.int p1)] maxLocals)) t := by
          intro t kt
          refine pre7 _ ?_
          show Steps p.tables e below (T5.setTop (mkF m 29 #[iv p0, iv p1, iv i, iv o, rv (el j), .val (own_ty el o), .unset] [(.int o)])) _
          refine XS.ifNo X5.here hx rfl (hb hby at_29) rfl ((if0 _ _).trans (teq hc29).2) ?_
          show Steps p.tables e below (T5.setTop (mkF m 32 #[iv p0, iv p1, iv i, iv o, rv (el j), .val (own_ty el o), .unset] [])) _
          refine XS.iloadN X5.here hx rfl (hb hby at_32) rfl ?_
          show Steps p.tables e below (T5.setTop (mkF m 33 #[iv p0, iv p1, iv i, iv o, rv (el j), .val (own_ty el o), .unset] [(.int i)])) _
          refine XS.iconst X5.here hx rfl (hb hby at_33) ?_
          exact kt
        by_cases hc34 : i < (1 : Int32)
        · have pre9 : ∀ t, Steps p.tables e below (T5.setTop (mkF m 45 #[iv p0, iv p1, iv i, iv o, rv (el j), .val (own_ty el o), .unset] [(.int (1 : Int32)), (.int o)])) t → Steps p.tables e below (s₁.setTop (entryFrame m #[(.int p0), (.int p1)] maxLocals)) t := by
            intro t kt
            refine pre8 _ ?_
            show Steps p.tables e below (T5.setTop (mkF m 34 #[iv p0, iv p1, iv i, iv o, rv (el j), .val (own_ty el o), .unset] [(.int (1 : Int32)), (.int i)])) _
            refine XS.icmpYes X5.here hx rfl (pc0 := 34) (pc' := 43) rfl (hb hby at_34) rfl (tlt hc34).1 (by decide) (by decide) ?_
            show Steps p.tables e below (T5.setTop (mkF m 43 #[iv p0, iv p1, iv i, iv o, rv (el j), .val (own_ty el o), .unset] [])) _
            refine XS.iloadN X5.here hx rfl (hb hby at_43) rfl ?_
            show Steps p.tables e below (T5.setTop (mkF m 44 #[iv p0, iv p1, iv i, iv o, rv (el j), .val (own_ty el o), .unset] [(.int o)])) _
            refine XS.iconst X5.here hx rfl (hb hby at_44) ?_
            exact kt
          by_cases hc45 : o = (1 : Int32)
          · have pre10 : ∀ t, Steps p.tables e below (T5.setTop (mkF m 50 #[iv p0, iv p1, iv i, iv o, rv (el j), .val (own_ty el o), .unset] [(.int (2 : Int32)), (.int i)])) t → Steps p.tables e below (s₁.setTop (entryFrame m #[(.int p0), (.int p1)] maxLocals)) t := by
              intro t kt
              refine pre9 _ ?_
              show Steps p.tables e below (T5.setTop (mkF m 45 #[iv p0, iv p1, iv i, iv o, rv (el j), .val (own_ty el o), .unset] [(.int (1 : Int32)), (.int o)])) _
              refine XS.icmpNo X5.here hx rfl (hb hby at_45) rfl (teq hc45).2 ?_
              show Steps p.tables e below (T5.setTop (mkF m 48 #[iv p0, iv p1, iv i, iv o, rv (el j), .val (own_ty el o), .unset] [])) _
              refine XS.iloadN X5.here hx rfl (hb hby at_48) rfl ?_
              show Steps p.tables e below (T5.setTop (mkF m 49 #[iv p0, iv p1, iv i, iv o, rv (el j), .val (own_ty el o), .unset] [(.int i)])) _
              refine XS.iconst X5.here hx rfl (hb hby at_49) ?_
              exact kt
            by_cases hc50 : i = (2 : Int32)
            · have pre11 : ∀ t, Steps p.tables e below (T5.setTop (mkF m 58 #[iv p0, iv p1, iv i, iv o, rv (el j), .val (own_ty el o), .unset] [(.int (1 : Int32))])) t → Steps p.tables e below (s₁.setTop (entryFrame m #[(.int p0), (.int p1)] maxLocals)) t := by
                intro t kt
                refine pre10 _ ?_
                show Steps p.tables e below (T5.setTop (mkF m 50 #[iv p0, iv p1, iv i, iv o, rv (el j), .val (own_ty el o), .unset] [(.int (2 : Int32)), (.int i)])) _
                refine XS.icmpNo X5.here hx rfl (hb hby at_50) rfl (teq hc50).2 ?_
                show Steps p.tables e below (T5.setTop (mkF m 53 #[iv p0, iv p1, iv i, iv o, rv (el j), .val (own_ty el o), .unset] [])) _
                refine XS.iconst X5.here hx rfl (hb hby at_53) ?_
                show Steps p.tables e below (T5.setTop (mkF m 54 #[iv p0, iv p1, iv i, iv o, rv (el j), .val (own_ty el o), .unset] [(.int (1 : Int32))])) _
                refine XS.goto X5.here hx rfl (pc0 := 54) (pc' := 58) rfl (hb hby at_54) (by decide) (by decide) ?_
                exact kt
              exact ⟨(1 : Int32), Or.inl ⟨hc29, hc34, hc45, hc50, rfl⟩, pre11⟩
            · have pre12 : ∀ t, Steps p.tables e below (T5.setTop (mkF m 58 #[iv p0, iv p1, iv i, iv o, rv (el j), .val (own_ty el o), .unset] [(.int (0 : Int32))])) t → Steps p.tables e below (s₁.setTop (entryFrame m #[(.int p0), (.int p1)] maxLocals)) t := by
                intro t kt
                refine pre10 _ ?_
                show Steps p.tables e below (T5.setTop (mkF m 50 #[iv p0, iv p1, iv i, iv o, rv (el j), .val (own_ty el o), .unset] [(.int (2 : Int32)), (.int i)])) _
                refine XS.icmpYes X5.here hx rfl (pc0 := 50) (pc' := 57) rfl (hb hby at_50) rfl (feq hc50).2 (by decide) (by decide) ?_
                show Steps p.tables e below (T5.setTop (mkF m 57 #[iv p0, iv p1, iv i, iv o, rv (el j), .val (own_ty el o), .unset] [])) _
                refine XS.iconst X5.here hx rfl (hb hby at_57) ?_
                exact kt
              exact ⟨(0 : Int32), Or.inr (Or.inl ⟨hc29, hc34, hc45, hc50, rfl⟩), pre12⟩
          · have pre13 : ∀ t, Steps p.tables e below (T5.setTop (mkF m 58 #[iv p0, iv p1, iv i, iv o, rv (el j), .val (own_ty el o), .unset] [(.int (0 : Int32))])) t → Steps p.tables e below (s₁.setTop (entryFrame m #[(.int p0), (.int p1)] maxLocals)) t := by
              intro t kt
              refine pre9 _ ?_
              show Steps p.tables e below (T5.setTop (mkF m 45 #[iv p0, iv p1, iv i, iv o, rv (el j), .val (own_ty el o), .unset] [(.int (1 : Int32)), (.int o)])) _
              refine XS.icmpYes X5.here hx rfl (pc0 := 45) (pc' := 57) rfl (hb hby at_45) rfl (feq hc45).2 (by decide) (by decide) ?_
              show Steps p.tables e below (T5.setTop (mkF m 57 #[iv p0, iv p1, iv i, iv o, rv (el j), .val (own_ty el o), .unset] [])) _
              refine XS.iconst X5.here hx rfl (hb hby at_57) ?_
              exact kt
            exact ⟨(0 : Int32), Or.inr (Or.inr (Or.inl ⟨hc29, hc34, hc45, rfl⟩)), pre13⟩
        · have pre14 : ∀ t, Steps p.tables e below (T5.setTop (mkF m 40 #[iv p0, iv p1, iv i, iv o, rv (el j), .val (own_ty el o), .unset] [(.int (8 : Int32)), (.int i)])) t → Steps p.tables e below (s₁.setTop (entryFrame m #[(.int p0), (.int p1)] maxLocals)) t := by
            intro t kt
            refine pre8 _ ?_
            show Steps p.tables e below (T5.setTop (mkF m 34 #[iv p0, iv p1, iv i, iv o, rv (el j), .val (own_ty el o), .unset] [(.int (1 : Int32)), (.int i)])) _
            refine XS.icmpNo X5.here hx rfl (hb hby at_34) rfl (flt hc34).1 ?_
            show Steps p.tables e below (T5.setTop (mkF m 37 #[iv p0, iv p1, iv i, iv o, rv (el j), .val (own_ty el o), .unset] [])) _
            refine XS.iloadN X5.here hx rfl (hb hby at_37) rfl ?_
            show Steps p.tables e below (T5.setTop (mkF m 38 #[iv p0, iv p1, iv i, iv o, rv (el j), .val (own_ty el o), .unset] [(.int i)])) _
            refine XS.bipush X5.here hx rfl (hb hby at_38) ?_
            exact kt
          by_cases hc40 : (8 : Int32) < i
          · have pre15 : ∀ t, Steps p.tables e below (T5.setTop (mkF m 45 #[iv p0, iv p1, iv i, iv o, rv (el j), .val (own_ty el o), .unset] [(.int (1 : Int32)), (.int o)])) t → Steps p.tables e below (s₁.setTop (entryFrame m #[(.int p0), (.int p1)] maxLocals)) t := by
              intro t kt
              refine pre14 _ ?_
              show Steps p.tables e below (T5.setTop (mkF m 40 #[iv p0, iv p1, iv i, iv o, rv (el j), .val (own_ty el o), .unset] [(.int (8 : Int32)), (.int i)])) _
              refine XS.icmpNo X5.here hx rfl (hb hby at_40) rfl (tlt hc40).2.2.2 ?_
              show Steps p.tables e below (T5.setTop (mkF m 43 #[iv p0, iv p1, iv i, iv o, rv (el j), .val (own_ty el o), .unset] [])) _
              refine XS.iloadN X5.here hx rfl (hb hby at_43) rfl ?_
              show Steps p.tables e below (T5.setTop (mkF m 44 #[iv p0, iv p1, iv i, iv o, rv (el j), .val (own_ty el o), .unset] [(.int o)])) _
              refine XS.iconst X5.here hx rfl (hb hby at_44) ?_
              exact kt
            by_cases hc45 : o = (1 : Int32)
            · have pre16 : ∀ t, Steps p.tables e below (T5.setTop (mkF m 50 #[iv p0, iv p1, iv i, iv o, rv (el j), .val (own_ty el o), .unset] [(.int (2 : Int32)), (.int i)])) t → Steps p.tables e below (s₁.setTop (entryFrame m #[(.int p0), (.int p1)] maxLocals)) t := by
                intro t kt
                refine pre15 _ ?_
                show Steps p.tables e below (T5.setTop (mkF m 45 #[iv p0, iv p1, iv i, iv o, rv (el j), .val (own_ty el o), .unset] [(.int (1 : Int32)), (.int o)])) _
                refine XS.icmpNo X5.here hx rfl (hb hby at_45) rfl (teq hc45).2 ?_
                show Steps p.tables e below (T5.setTop (mkF m 48 #[iv p0, iv p1, iv i, iv o, rv (el j), .val (own_ty el o), .unset] [])) _
                refine XS.iloadN X5.here hx rfl (hb hby at_48) rfl ?_
                show Steps p.tables e below (T5.setTop (mkF m 49 #[iv p0, iv p1, iv i, iv o, rv (el j), .val (own_ty el o), .unset] [(.int i)])) _
                refine XS.iconst X5.here hx rfl (hb hby at_49) ?_
                exact kt
              by_cases hc50 : i = (2 : Int32)
              · have pre17 : ∀ t, Steps p.tables e below (T5.setTop (mkF m 58 #[iv p0, iv p1, iv i, iv o, rv (el j), .val (own_ty el o), .unset] [(.int (1 : Int32))])) t → Steps p.tables e below (s₁.setTop (entryFrame m #[(.int p0), (.int p1)] maxLocals)) t := by
                  intro t kt
                  refine pre16 _ ?_
                  show Steps p.tables e below (T5.setTop (mkF m 50 #[iv p0, iv p1, iv i, iv o, rv (el j), .val (own_ty el o), .unset] [(.int (2 : Int32)), (.int i)])) _
                  refine XS.icmpNo X5.here hx rfl (hb hby at_50) rfl (teq hc50).2 ?_
                  show Steps p.tables e below (T5.setTop (mkF m 53 #[iv p0, iv p1, iv i, iv o, rv (el j), .val (own_ty el o), .unset] [])) _
                  refine XS.iconst X5.here hx rfl (hb hby at_53) ?_
                  show Steps p.tables e below (T5.setTop (mkF m 54 #[iv p0, iv p1, iv i, iv o, rv (el j), .val (own_ty el o), .unset] [(.int (1 : Int32))])) _
                  refine XS.goto X5.here hx rfl (pc0 := 54) (pc' := 58) rfl (hb hby at_54) (by decide) (by decide) ?_
                  exact kt
                exact ⟨(1 : Int32), Or.inr (Or.inr (Or.inr (Or.inl ⟨hc29, hc34, hc40, hc45, hc50, rfl⟩))), pre17⟩
              · have pre18 : ∀ t, Steps p.tables e below (T5.setTop (mkF m 58 #[iv p0, iv p1, iv i, iv o, rv (el j), .val (own_ty el o), .unset] [(.int (0 : Int32))])) t → Steps p.tables e below (s₁.setTop (entryFrame m #[(.int p0), (.int p1)] maxLocals)) t := by
                  intro t kt
                  refine pre16 _ ?_
                  show Steps p.tables e below (T5.setTop (mkF m 50 #[iv p0, iv p1, iv i, iv o, rv (el j), .val (own_ty el o), .unset] [(.int (2 : Int32)), (.int i)])) _
                  refine XS.icmpYes X5.here hx rfl (pc0 := 50) (pc' := 57) rfl (hb hby at_50) rfl (feq hc50).2 (by decide) (by decide) ?_
                  show Steps p.tables e below (T5.setTop (mkF m 57 #[iv p0, iv p1, iv i, iv o, rv (el j), .val (own_ty el o), .unset] [])) _
                  refine XS.iconst X5.here hx rfl (hb hby at_57) ?_
                  exact kt
                exact ⟨(0 : Int32), Or.inr (Or.inr (Or.inr (Or.inr (Or.inl ⟨hc29, hc34, hc40, hc45, hc50, rfl⟩)))), pre18⟩
            · have pre19 : ∀ t, Steps p.tables e below (T5.setTop (mkF m 58 #[iv p0, iv p1, iv i, iv o, rv (el j), .val (own_ty el o), .unset] [(.int (0 : Int32))])) t → Steps p.tables e below (s₁.setTop (entryFrame m #[(.int p0), (.int p1)] maxLocals)) t := by
                intro t kt
                refine pre15 _ ?_
                show Steps p.tables e below (T5.setTop (mkF m 45 #[iv p0, iv p1, iv i, iv o, rv (el j), .val (own_ty el o), .unset] [(.int (1 : Int32)), (.int o)])) _
                refine XS.icmpYes X5.here hx rfl (pc0 := 45) (pc' := 57) rfl (hb hby at_45) rfl (feq hc45).2 (by decide) (by decide) ?_
                show Steps p.tables e below (T5.setTop (mkF m 57 #[iv p0, iv p1, iv i, iv o, rv (el j), .val (own_ty el o), .unset] [])) _
                refine XS.iconst X5.here hx rfl (hb hby at_57) ?_
                exact kt
              exact ⟨(0 : Int32), Or.inr (Or.inr (Or.inr (Or.inr (Or.inr (Or.inl ⟨hc29, hc34, hc40, hc45, rfl⟩))))), pre19⟩
          · have pre20 : ∀ t, Steps p.tables e below (T5.setTop (mkF m 58 #[iv p0, iv p1, iv i, iv o, rv (el j), .val (own_ty el o), .unset] [(.int (1 : Int32))])) t → Steps p.tables e below (s₁.setTop (entryFrame m #[(.int p0), (.int p1)] maxLocals)) t := by
              intro t kt
              refine pre14 _ ?_
              show Steps p.tables e below (T5.setTop (mkF m 40 #[iv p0, iv p1, iv i, iv o, rv (el j), .val (own_ty el o), .unset] [(.int (8 : Int32)), (.int i)])) _
              refine XS.icmpYes X5.here hx rfl (pc0 := 40) (pc' := 53) rfl (hb hby at_40) rfl (flt hc40).2.2.2 (by decide) (by decide) ?_
              show Steps p.tables e below (T5.setTop (mkF m 53 #[iv p0, iv p1, iv i, iv o, rv (el j), .val (own_ty el o), .unset] [])) _
              refine XS.iconst X5.here hx rfl (hb hby at_53) ?_
              show Steps p.tables e below (T5.setTop (mkF m 54 #[iv p0, iv p1, iv i, iv o, rv (el j), .val (own_ty el o), .unset] [(.int (1 : Int32))])) _
              refine XS.goto X5.here hx rfl (pc0 := 54) (pc' := 58) rfl (hb hby at_54) (by decide) (by decide) ?_
              exact kt
            exact ⟨(1 : Int32), Or.inr (Or.inr (Or.inr (Or.inr (Or.inr (Or.inr (Or.inl ⟨hc29, hc34, hc40, rfl⟩)))))), pre20⟩
      · have pre21 : ∀ t, Steps p.tables e below (T5.setTop (mkF m 45 #[iv p0, iv p1, iv i, iv o, rv (el j), .val (own_ty el o), .unset] [(.int (1 : Int32)), (.int o)])) t → Steps p.tables e below (s₁.setTop (entryFrame m #[(.int p0), (.int p1)] maxLocals)) t := by
          intro t kt
          refine pre7 _ ?_
          show Steps p.tables e below (T5.setTop (mkF m 29 #[iv p0, iv p1, iv i, iv o, rv (el j), .val (own_ty el o), .unset] [(.int o)])) _
          refine XS.ifYes X5.here hx rfl (pc0 := 29) (pc' := 43) rfl (hb hby at_29) rfl ((if0 _ _).trans (feq hc29).2) (by decide) (by decide) ?_
          show Steps p.tables e below (T5.setTop (mkF m 43 #[iv p0, iv p1, iv i, iv o, rv (el j), .val (own_ty el o), .unset] [])) _
          refine XS.iloadN X5.here hx rfl (hb hby at_43) rfl ?_
          show Steps p.tables e below (T5.setTop (mkF m 44 #[iv p0, iv p1, iv i, iv o, rv (el j), .val (own_ty el o), .unset] [(.int o)])) _
          refine XS.iconst X5.here hx rfl (hb hby at_44) ?_
          exact kt
        by_cases hc45 : o = (1 : Int32)
        · have pre22 : ∀ t, Steps p.tables e below (T5.setTop (mkF m 50 #[iv p0, iv p1, iv i, iv o, rv (el j), .val (own_ty el o), .unset] [(.int (2 : Int32)), (.int i)])) t → Steps p.tables e below (s₁.setTop (entryFrame m #[(.int p0), (.int p1)] maxLocals)) t := by
            intro t kt
            refine pre21 _ ?_
            show Steps p.tables e below (T5.setTop (mkF m 45 #[iv p0, iv p1, iv i, iv o, rv (el j), .val (own_ty el o), .unset] [(.int (1 : Int32)), (.int o)])) _
            refine XS.icmpNo X5.here hx rfl (hb hby at_45) rfl (teq hc45).2 ?_
            show Steps p.tables e below (T5.setTop (mkF m 48 #[iv p0, iv p1, iv i, iv o, rv (el j), .val (own_ty el o), .unset] [])) _
            refine XS.iloadN X5.here hx rfl (hb hby at_48) rfl ?_
            show Steps p.tables e below (T5.setTop (mkF m 49 #[iv p0, iv p1, iv i, iv o, rv (el j), .val (own_ty el o), .unset] [(.int i)])) _
            refine XS.iconst X5.here hx rfl (hb hby at_49) ?_
            exact kt
          by_cases hc50 : i = (2 : Int32)
          · have pre23 : ∀ t, Steps p.tables e below (T5.setTop (mkF m 58 #[iv p0, iv p1, iv i, iv o, rv (el j), .val (own_ty el o), .unset] [(.int (1 : Int32))])) t → Steps p.tables e below (s₁.setTop (entryFrame m #[(.int p0), (.int p1)] maxLocals)) t := by
              intro t kt
              refine pre22 _ ?_
              show Steps p.tables e below (T5.setTop (mkF m 50 #[iv p0, iv p1, iv i, iv o, rv (el j), .val (own_ty el o), .unset] [(.int (2 : Int32)), (.int i)])) _
              refine XS.icmpNo X5.here hx rfl (hb hby at_50) rfl (teq hc50).2 ?_
              show Steps p.tables e below (T5.setTop (mkF m 53 #[iv p0, iv p1, iv i, iv o, rv (el j), .val (own_ty el o), .unset] [])) _
              refine XS.iconst X5.here hx rfl (hb hby at_53) ?_
              show Steps p.tables e below (T5.setTop (mkF m 54 #[iv p0, iv p1, iv i, iv o, rv (el j), .val (own_ty el o), .unset] [(.int (1 : Int32))])) _
              refine XS.goto X5.here hx rfl (pc0 := 54) (pc' := 58) rfl (hb hby at_54) (by decide) (by decide) ?_
              exact kt
            exact ⟨(1 : Int32), Or.inr (Or.inr (Or.inr (Or.inr (Or.inr (Or.inr (Or.inr (Or.inl ⟨hc29, hc45, hc50, rfl⟩))))))), pre23⟩
          · have pre24 : ∀ t, Steps p.tables e below (T5.setTop (mkF m 58 #[iv p0, iv p1, iv i, iv o, rv (el j), .val (own_ty el o), .unset] [(.int (0 : Int32))])) t → Steps p.tables e below (s₁.setTop (entryFrame m #[(.int p0), (.int p1)] maxLocals)) t := by
              intro t kt
              refine pre22 _ ?_
              show Steps p.tables e below (T5.setTop (mkF m 50 #[iv p0, iv p1, iv i, iv o, rv (el j), .val (own_ty el o), .unset] [(.int (2 : Int32)), (.int i)])) _
              refine XS.icmpYes X5.here hx rfl (pc0 := 50) (pc' := 57) rfl (hb hby at_50) rfl (feq hc50).2 (by decide) (by decide) ?_
              show Steps p.tables e below (T5.setTop (mkF m 57 #[iv p0, iv p1, iv i, iv o, rv (el j), .val (own_ty el o), .unset] [])) _
              refine XS.iconst X5.here hx rfl (hb hby at_57) ?_
              exact kt
            exact ⟨(0 : Int32), Or.inr (Or.inr (Or.inr (Or.inr (Or.inr (Or.inr (Or.inr (Or.inr (Or.inl ⟨hc29, hc45, hc50, rfl⟩)))))))), pre24⟩
        · have pre25 : ∀ t, Steps p.tables e below (T5.setTop (mkF m 58 #[iv p0, iv p1, iv i, iv o, rv (el j), .val (own_ty el o), .unset] [(.int (0 : Int32))])) t → Steps p.tables e below (s₁.setTop (entryFrame m #[(.int p0), (.int p1)] maxLocals)) t := by
            intro t kt
            refine pre21 _ ?_
            show Steps p.tables e below (T5.setTop (mkF m 45 #[iv p0, iv p1, iv i, iv o, rv (el j), .val (own_ty el o), .unset] [(.int (1 : Int32)), (.int o)])) _
            refine XS.icmpYes X5.here hx rfl (pc0 := 45) (pc' := 57) rfl (hb hby at_45) rfl (feq hc45).2 (by decide) (by decide) ?_
            show Steps p.tables e below (T5.setTop (mkF m 57 #[iv p0, iv p1, iv i, iv o, rv (el j), .val (own_ty el o), .unset] [])) _
            refine XS.iconst X5.here hx rfl (hb hby at_57) ?_
            exact kt
          exact ⟨(0 : Int32), Or.inr (Or.inr (Or.inr (Or.inr (Or.inr (Or.inr (Or.inr (Or.inr (Or.inr (⟨hc29, hc45, rfl⟩))))))))), pre25⟩
    have pre28 : ∀ t, Steps p.tables e below (T5.setTop (mkF m 64 #[iv p0, iv p1, iv i, iv o, rv (el j), .val (own_ty el o), iv exp] [(own_ty el o), (.ref (el j))])) t → Steps p.tables e below (s₁.setTop (entryFrame m #[(.int p0), (.int p1)] maxLocals)) t := by
      intro t kt
      refine pre27 _ ?_
      show Steps p.tables e below (T5.setTop (mkF m 58 #[iv p0, iv p1, iv i, iv o, rv (el j), .val (own_ty el o), .unset] [(.int exp)])) _
      refine XS.istore X5.here hx rfl (hb hby at_58) rfl (l' := #[iv p0, iv p1, iv i, iv o, rv (el j), .val (own_ty el o), iv exp]) rfl ?_
      show Steps p.tables e below (T5.setTop (mkF m 60 #[iv p0, iv p1, iv i, iv o, rv (el j), .val (own_ty el o), iv exp] [])) _
      refine XS.aload X5.here hx rfl (hb hby at_60) rfl rfl ?_
      show Steps p.tables e below (T5.setTop (mkF m 62 #[iv p0, iv p1, iv i, iv o, rv (el j), .val (own_ty el o), iv exp] [(.ref (el j))])) _
      refine XS.aload X5.here hx rfl (hb hby at_62) rfl (own_isref el o (h_o ▸ own_rem p1 11 11 (by decide) (by decide))) ?_
      exact kt
    obtain ⟨cq29, kq29, q29a, q29b, q29c⟩ := isOf hZ hh5 (hE j (by omega))
    obtain ⟨_, _, ⟨T29, L29, k29, n29⟩, -, X29, ⟨Lc29, hQ29, l29, y29, z29⟩, st29⟩ := X5.virtualBack hx (y := (⟨"com/example/subject/subject/model/EntityType", "livesIn", "(Lcom/example/subject/subject/model/EntityType;)Z"⟩ : MethodName)) (z := (⟨"com/example/subject/subject/model/EntityType", "livesIn", "(Lcom/example/subject/subject/model/EntityType;)Z"⟩ : MethodName)) hown (mvT hZ (hw _ (List.mem_of_getElem? (i := 10) rfl))) (mvT hZ (hw _ (List.mem_of_getElem? (i := 11) rfl))) (notFace_of_selects (args := #[]) (mvT hZ (hw _ (List.mem_of_getElem? (i := 13) rfl)))) (mvT hZ (hw _ (List.mem_of_getElem? (i := 13) rfl))) (mvT hZ (hw _ (List.mem_of_getElem? (i := 12) rfl))) (by decide) (backOf (W := 0) (rm2a l Z a0 hw [] (el j) (own_ty el o) h0 n0 (Nat.le_trans Z0 (Keep.refl h0 []).1) (own_isref el o (h_o ▸ own_rem p1 11 11 (by decide) (by decide))) (hA j hj)) hZ (hw _ (List.mem_of_getElem? (i := 14) rfl)) (hw _ (List.mem_of_getElem? (i := 6) rfl)) (by decide) (by decide)) q29a q29c (g := (mkF m 64 #[iv p0, iv p1, iv i, iv o, rv (el j), .val (own_ty el o), iv exp] [(own_ty el o), (.ref (el j))])) rfl (by rw [hml]; rfl) (Steps.refl _) (argsL := [(own_ty el o)]) (rest := []) (lenOf pd3 rfl) rfl (by show 2 * 0 + _ ≤ _; exact Nat.le_of_eq rfl) (hb hby at_64) (fun _ _ => ⟨rfl, hh5, (by decide : 0 + 0 ≤ _), (by decide : 0 + 0 ≤ _)⟩)
    dsimp only [Pt.U, Pt.locs, Pt.cells, Pt.slots] at X29 l29 y29 z29 st29 hQ29
    subst l29 y29 z29
    obtain ⟨rfl, N29q, hh29⟩ := hQ29
    have N29 := Fr.app N5 N29q
    have pre30 : ∀ t, Steps p.tables e below (T29.setTop (mkF m 69 #[iv p0, iv p1, iv i, iv o, rv (el j), .val (own_ty el o), iv exp] [(.int exp), (.int (0 : Int32))])) t → Steps p.tables e below (s₁.setTop (entryFrame m #[(.int p0), (.int p1)] maxLocals)) t := by
      intro t kt
      refine pre28 _ ?_
      show Steps p.tables e below (T5.setTop (mkF m 64 #[iv p0, iv p1, iv i, iv o, rv (el j), .val (own_ty el o), iv exp] [(own_ty el o), (.ref (el j))])) _
      refine st29.trans ?_
      show Steps p.tables e below (T29.setTop (mkF m 67 #[iv p0, iv p1, iv i, iv o, rv (el j), .val (own_ty el o), iv exp] [(.int (0 : Int32))])) _
      refine XS.iload X29.here hx rfl (hb hby at_67) rfl ?_
      exact kt
    by_cases hc69 : (0 : Int32) = exp
    · have pre31 : ∀ t, Steps p.tables e below (T29.setTop (mkF m 77 #[iv p0, iv p1, iv i, iv o, rv (el j), .val (own_ty el o), iv exp] [(.int (1 : Int32))])) t → Steps p.tables e below (s₁.setTop (entryFrame m #[(.int p0), (.int p1)] maxLocals)) t := by
        intro t kt
        refine pre30 _ ?_
        show Steps p.tables e below (T29.setTop (mkF m 69 #[iv p0, iv p1, iv i, iv o, rv (el j), .val (own_ty el o), iv exp] [(.int exp), (.int (0 : Int32))])) _
        refine XS.icmpNo X29.here hx rfl (hb hby at_69) rfl (teq hc69).2 ?_
        show Steps p.tables e below (T29.setTop (mkF m 72 #[iv p0, iv p1, iv i, iv o, rv (el j), .val (own_ty el o), iv exp] [])) _
        refine XS.iconst X29.here hx rfl (hb hby at_72) ?_
        show Steps p.tables e below (T29.setTop (mkF m 73 #[iv p0, iv p1, iv i, iv o, rv (el j), .val (own_ty el o), iv exp] [(.int (1 : Int32))])) _
        refine XS.goto X29.here hx rfl (pc0 := 73) (pc' := 77) rfl (hb hby at_73) (by decide) (by decide) ?_
        exact kt
      obtain ⟨fs, hr, hrun, hended, hW, hsame⟩ := X29.leave (v := some (.int (1 : Int32))) (fun h => by rw [Bd.returns] at h; cases h)
      refine ⟨_, _, pre31 _ ?_, hrun, hended, _, _, rfl, ?_, ⟨_, rfl⟩, hW, hsame.mono (by decide) (by decide)⟩
      · show Steps p.tables e below (T29.setTop (mkF m 77 #[iv p0, iv p1, iv i, iv o, rv (el j), .val (own_ty el o), iv exp] [(.int (1 : Int32))])) _
        exact retN X29 hx (t := .boolean) Bd.returns (by simp) (hb hby at_77) hr
      · show Q0 Z p0 p1 el h0 n0 _ T29.heap _
        rw [hh29]
        exact ⟨rfl, N29⟩
    · have pre32 : ∀ t, Steps p.tables e below (T29.setTop (mkF m 77 #[iv p0, iv p1, iv i, iv o, rv (el j), .val (own_ty el o), iv exp] [(.int (0 : Int32))])) t → Steps p.tables e below (s₁.setTop (entryFrame m #[(.int p0), (.int p1)] maxLocals)) t := by
        intro t kt
        refine pre30 _ ?_
        show Steps p.tables e below (T29.setTop (mkF m 69 #[iv p0, iv p1, iv i, iv o, rv (el j), .val (own_ty el o), iv exp] [(.int exp), (.int (0 : Int32))])) _
        refine XS.icmpYes X29.here hx rfl (pc0 := 69) (pc' := 76) rfl (hb hby at_69) rfl (feq hc69).2 (by decide) (by decide) ?_
        show Steps p.tables e below (T29.setTop (mkF m 76 #[iv p0, iv p1, iv i, iv o, rv (el j), .val (own_ty el o), iv exp] [])) _
        refine XS.iconst X29.here hx rfl (hb hby at_76) ?_
        exact kt
      exfalso
      refine hc69 ?_
      rw [own_exp i o exp (h_i ▸ own_rem p0 10 10 (by decide) (by decide)) (h_o ▸ own_rem p1 11 11 (by decide) (by decide)) hexp]
      rw [if_neg]
      omega
  · have pre33 : ∀ t, Steps p.tables e below (T2.setTop (mkF m 23 #[iv p0, iv p1, iv i, iv o, rv (el j), .unset, .unset] [(.int o)])) t → Steps p.tables e below (s₁.setTop (entryFrame m #[(.int p0), (.int p1)] maxLocals)) t := by
      intro t kt
      refine pre3 _ ?_
      show Steps p.tables e below (T2.setTop (mkF m 20 #[iv p0, iv p1, iv i, iv o, .unset, .unset, .unset] [(own_ty el i)])) _
      rw [hty]
      show Steps p.tables e below (T2.setTop (mkF m 20 #[iv p0, iv p1, iv i, iv o, .unset, .unset, .unset] [(.ref (el j))])) _
      refine XS.astore X2.here hx rfl (hb hby at_20) rfl rfl (l' := #[iv p0, iv p1, iv i, iv o, rv (el j), .unset, .unset]) rfl ?_
      show Steps p.tables e below (T2.setTop (mkF m 22 #[iv p0, iv p1, iv i, iv o, rv (el j), .unset, .unset] [])) _
      refine XS.iloadN X2.here hx rfl (hb hby at_22) rfl ?_
      exact kt
    obtain ⟨_, _, ⟨T34, L34, k34, n34⟩, -, X34, ⟨Lc34, hQ34, l34, y34, z34⟩, st34⟩ := Jvm.LawKit.callS X2 hx (y := (⟨"com/example/subject/subject/model/EntityTypeLivesInPinLaw", "type", "(I)Lcom/example/subject/subject/model/EntityType;"⟩ : MethodName)) hown (mvT hZ (hw _ (List.mem_of_getElem? (i := 1) rfl))) (mvT hZ (hw _ (List.mem_of_getElem? (i := 2) rfl))) (mvT hZ (hw _ (List.mem_of_getElem? (i := 3) rfl))) (mvT hZ (hw _ (List.mem_of_getElem? (i := 4) rfl))) (by decide) (backOf (W := 0) (rm1 l Z a0 hw [] o el h0 n0 (Nat.le_trans Z0 (Keep.refl h0 []).1) (O0.keep (Keep.refl h0 []) all0) S_NAMESPACE S_APPLICATION S_PROGRAM S_DATASET S_STREAM S_ARTIFACT S_DATASET_TYPE S_DATASET_MODULE S_SECUREKEY S_KERBEROSPRINCIPAL) hZ (hw _ (List.mem_of_getElem? (i := 4) rfl)) (hw _ (List.mem_of_getElem? (i := 3) rfl)) (by decide) (by decide)) (g := (mkF m 23 #[iv p0, iv p1, iv i, iv o, rv (el j), .unset, .unset] [(.int o)])) rfl (by rw [hml]; rfl) (argsL := [(.int o)]) (rest := []) (lenOf pd2 rfl) rfl (by show 2 * 0 + _ ≤ _; exact Nat.le_of_eq rfl) (hb hby at_23) (fun _ _ => ⟨rfl, hh2, (by decide : 0 + 0 ≤ _), (by decide : 0 + 0 ≤ _)⟩)
    dsimp only [Pt.U, Pt.locs, Pt.cells, Pt.slots] at X34 l34 y34 z34 st34 hQ34
    subst l34 y34 z34
    obtain ⟨rfl, N34q, hh34⟩ := hQ34
    have N34 := Fr.app N2 N34q
    have pre35 : ∀ t, Steps p.tables e below (T34.setTop (mkF m 28 #[iv p0, iv p1, iv i, iv o, rv (el j), .val (own_ty el o), .unset] [])) t → Steps p.tables e below (s₁.setTop (entryFrame m #[(.int p0), (.int p1)] maxLocals)) t := by
      intro t kt
      refine pre33 _ ?_
      show Steps p.tables e below (T2.setTop (mkF m 23 #[iv p0, iv p1, iv i, iv o, rv (el j), .unset, .unset] [(.int o)])) _
      refine st34 _ ?_
      show Steps p.tables e below (T34.setTop (mkF m 26 #[iv p0, iv p1, iv i, iv o, rv (el j), .unset, .unset] [(own_ty el o)])) _
      refine XS.astore X34.here hx rfl (hb hby at_26) rfl (own_isref el o (h_o ▸ own_rem p1 11 11 (by decide) (by decide))) (l' := #[iv p0, iv p1, iv i, iv o, rv (el j), .val (own_ty el o), .unset]) (by rcases ref_cases (own_isref el o (h_o ▸ own_rem p1 11 11 (by decide) (by decide))) with q | ⟨_, q⟩ <;> rw [q] <;> rfl) ?_
      exact kt
    obtain ⟨exp, hexp, pre56⟩ : ∃ (exp : Int32), (((o = (0 : Int32)) ∧ (i < (1 : Int32)) ∧ (o = (1 : Int32)) ∧ (i = (2 : Int32)) ∧ exp = (1 : Int32)) ∨ ((o = (0 : Int32)) ∧ (i < (1 : Int32)) ∧ (o = (1 : Int32)) ∧ (¬ (i = (2 : Int32))) ∧ exp = (0 : Int32)) ∨ ((o = (0 : Int32)) ∧ (i < (1 : Int32)) ∧ (¬ (o = (1 : Int32))) ∧ exp = (0 : Int32)) ∨ ((o = (0 : Int32)) ∧ (¬ (i < (1 : Int32))) ∧ ((8 : Int32) < i) ∧ (o = (1 : Int32)) ∧ (i = (2 : Int32)) ∧ exp = (1 : Int32)) ∨ ((o = (0 : Int32)) ∧ (¬ (i < (1 : Int32))) ∧ ((8 : Int32) < i) ∧ (o = (1 : Int32)) ∧ (¬ (i = (2 : Int32))) ∧ exp = (0 : Int32)) ∨ ((o = (0 : Int32)) ∧ (¬ (i < (1 : Int32))) ∧ ((8 : Int32) < i) ∧ (¬ (o = (1 : Int32))) ∧ exp = (0 : Int32)) ∨ ((o = (0 : Int32)) ∧ (¬ (i < (1 : Int32))) ∧ (¬ ((8 : Int32) < i)) ∧ exp = (1 : Int32)) ∨ ((¬ (o = (0 : Int32))) ∧ (o = (1 : Int32)) ∧ (i = (2 : Int32)) ∧ exp = (1 : Int32)) ∨ ((¬ (o = (0 : Int32))) ∧ (o = (1 : Int32)) ∧ (¬ (i = (2 : Int32))) ∧ exp = (0 : Int32)) ∨ ((¬ (o = (0 : Int32))) ∧ (¬ (o = (1 : Int32))) ∧ exp = (0 : Int32))) ∧ ∀ t, Steps p.tables e below (T34.setTop (mkF m 58 #[iv p0, iv p1, iv i, iv o, rv (el j), .val (own_ty el o), .unset] [(.int exp)])) t → Steps p.tables e below (s₁.setTop (entryFrame m #[(.int p0), (.int p1)] maxLocals)) t := by
      have pre36 : ∀ t, Steps p.tables e below (T34.setTop (mkF m 29 #[iv p0, iv p1, iv i, iv o, rv (el j), .val (own_ty el o), .unset] [(.int o)])) t → Steps p.tables e below (s₁.setTop (entryFrame m #[(.int p0), (.int p1)] maxLocals)) t := by
        intro t kt
        refine pre35 _ ?_
        show Steps p.tables e below (T34.setTop (mkF m 28 #[iv p0, iv p1, iv i, iv o, rv (el j), .val (own_ty el o), .unset] [])) _
        refine XS.iloadN X34.here hx rfl (hb hby at_28) rfl ?_
        exact kt
      by_cases hc29 : o = (0 : Int32)
      · have pre37 : ∀ t, Steps p.tables e below (T34.setTop (mkF m 34 #[iv p0, iv p1, iv i, iv o, rv (el j), .val (own_ty el o), .unset] [(.int (1 : Int32)), (.int i)])) t → Steps p.tables e below (s₁.setTop (entryFrame m #[(.int p0), (.int p1)] maxLocals)) t := by
          intro t kt
          refine pre36 _ ?_
          show Steps p.tables e below (T34.setTop (mkF m 29 #[iv p0, iv p1, iv i, iv o, rv (el j), .val (own_ty el o), .unset] [(.int o)])) _
          refine XS.ifNo X34.here hx rfl (hb hby at_29) rfl ((if0 _ _).trans (teq hc29).2) ?_
          show Steps p.tables e below (T34.setTop (mkF m 32 #[iv p0, iv p1, iv i, iv o, rv (el j), .val (own_ty el o), .unset] [])) _
          refine XS.iloadN X34.here hx rfl (hb hby at_32) rfl ?_
          show Steps p.tables e below (T34.setTop (mkF m 33 #[iv p0, iv p1, iv i, iv o, rv (el j), .val (own_ty el o), .unset] [(.int i)])) _
          refine XS.iconst X34.here hx rfl (hb hby at_33) ?_
          exact kt
        by_cases hc34 : i < (1 : Int32)
        · have pre38 : ∀ t, Steps p.tables e below (T34.setTop (mkF m 45 #[iv p0, iv p1, iv i, iv o, rv (el j), .val (own_ty el o), .unset] [(.int (1 : Int32)), (.int o)])) t → Steps p.tables e below (s₁.setTop (entryFrame m #[(.int p0), (.int p1)] maxLocals)) t := by
            intro t kt
            refine pre37 _ ?_
            show Steps p.tables e below (T34.setTop (mkF m 34 #[iv p0, iv p1, iv i, iv o, rv (el j), .val (own_ty el o), .unset] [(.int (1 : Int32)), (.int i)])) _
            refine XS.icmpYes X34.here hx rfl (pc0 := 34) (pc' := 43) rfl (hb hby at_34) rfl (tlt hc34).1 (by decide) (by decide) ?_
            show Steps p.tables e below (T34.setTop (mkF m 43 #[iv p0, iv p1, iv i, iv o, rv (el j), .val (own_ty el o), .unset] [])) _
            refine XS.iloadN X34.here hx rfl (hb hby at_43) rfl ?_
            show Steps p.tables e below (T34.setTop (mkF m 44 #[iv p0, iv p1, iv i, iv o, rv (el j), .val (own_ty el o), .unset] [(.int o)])) _
            refine XS.iconst X34.here hx rfl (hb hby at_44) ?_
            exact kt
          by_cases hc45 : o = (1 : Int32)
          · have pre39 : ∀ t, Steps p.tables e below (T34.setTop (mkF m 50 #[iv p0, iv p1, iv i, iv o, rv (el j), .val (own_ty el o), .unset] [(.int (2 : Int32)), (.int i)])) t → Steps p.tables e below (s₁.setTop (entryFrame m #[(.int p0), (.int p1)] maxLocals)) t := by
              intro t kt
              refine pre38 _ ?_
              show Steps p.tables e below (T34.setTop (mkF m 45 #[iv p0, iv p1, iv i, iv o, rv (el j), .val (own_ty el o), .unset] [(.int (1 : Int32)), (.int o)])) _
              refine XS.icmpNo X34.here hx rfl (hb hby at_45) rfl (teq hc45).2 ?_
              show Steps p.tables e below (T34.setTop (mkF m 48 #[iv p0, iv p1, iv i, iv o, rv (el j), .val (own_ty el o), .unset] [])) _
              refine XS.iloadN X34.here hx rfl (hb hby at_48) rfl ?_
              show Steps p.tables e below (T34.setTop (mkF m 49 #[iv p0, iv p1, iv i, iv o, rv (el j), .val (own_ty el o), .unset] [(.int i)])) _
              refine XS.iconst X34.here hx rfl (hb hby at_49) ?_
              exact kt
            by_cases hc50 : i = (2 : Int32)
            · have pre40 : ∀ t, Steps p.tables e below (T34.setTop (mkF m 58 #[iv p0, iv p1, iv i, iv o, rv (el j), .val (own_ty el o), .unset] [(.int (1 : Int32))])) t → Steps p.tables e below (s₁.setTop (entryFrame m #[(.int p0), (.int p1)] maxLocals)) t := by
                intro t kt
                refine pre39 _ ?_
                show Steps p.tables e below (T34.setTop (mkF m 50 #[iv p0, iv p1, iv i, iv o, rv (el j), .val (own_ty el o), .unset] [(.int (2 : Int32)), (.int i)])) _
                refine XS.icmpNo X34.here hx rfl (hb hby at_50) rfl (teq hc50).2 ?_
                show Steps p.tables e below (T34.setTop (mkF m 53 #[iv p0, iv p1, iv i, iv o, rv (el j), .val (own_ty el o), .unset] [])) _
                refine XS.iconst X34.here hx rfl (hb hby at_53) ?_
                show Steps p.tables e below (T34.setTop (mkF m 54 #[iv p0, iv p1, iv i, iv o, rv (el j), .val (own_ty el o), .unset] [(.int (1 : Int32))])) _
                refine XS.goto X34.here hx rfl (pc0 := 54) (pc' := 58) rfl (hb hby at_54) (by decide) (by decide) ?_
                exact kt
              exact ⟨(1 : Int32), Or.inl ⟨hc29, hc34, hc45, hc50, rfl⟩, pre40⟩
            · have pre41 : ∀ t, Steps p.tables e below (T34.setTop (mkF m 58 #[iv p0, iv p1, iv i, iv o, rv (el j), .val (own_ty el o), .unset] [(.int (0 : Int32))])) t → Steps p.tables e below (s₁.setTop (entryFrame m #[(.int p0), (.int p1)] maxLocals)) t := by
                intro t kt
                refine pre39 _ ?_
                show Steps p.tables e below (T34.setTop (mkF m 50 #[iv p0, iv p1, iv i, iv o, rv (el j), .val (own_ty el o), .unset] [(.int (2 : Int32)), (.int i)])) _
                refine XS.icmpYes X34.here hx rfl (pc0 := 50) (pc' := 57) rfl (hb hby at_50) rfl (feq hc50).2 (by decide) (by decide) ?_
                show Steps p.tables e below (T34.setTop (mkF m 57 #[iv p0, iv p1, iv i, iv o, rv (el j), .val (own_ty el o), .unset] [])) _
                refine XS.iconst X34.here hx rfl (hb hby at_57) ?_
                exact kt
              exact ⟨(0 : Int32), Or.inr (Or.inl ⟨hc29, hc34, hc45, hc50, rfl⟩), pre41⟩
          · have pre42 : ∀ t, Steps p.tables e below (T34.setTop (mkF m 58 #[iv p0, iv p1, iv i, iv o, rv (el j), .val (own_ty el o), .unset] [(.int (0 : Int32))])) t → Steps p.tables e below (s₁.setTop (entryFrame m #[(.int p0), (.int p1)] maxLocals)) t := by
              intro t kt
              refine pre38 _ ?_
              show Steps p.tables e below (T34.setTop (mkF m 45 #[iv p0, iv p1, iv i, iv o, rv (el j), .val (own_ty el o), .unset] [(.int (1 : Int32)), (.int o)])) _
              refine XS.icmpYes X34.here hx rfl (pc0 := 45) (pc' := 57) rfl (hb hby at_45) rfl (feq hc45).2 (by decide) (by decide) ?_
              show Steps p.tables e below (T34.setTop (mkF m 57 #[iv p0, iv p1, iv i, iv o, rv (el j), .val (own_ty el o), .unset] [])) _
              refine XS.iconst X34.here hx rfl (hb hby at_57) ?_
              exact kt
            exact ⟨(0 : Int32), Or.inr (Or.inr (Or.inl ⟨hc29, hc34, hc45, rfl⟩)), pre42⟩
        · have pre43 : ∀ t, Steps p.tables e below (T34.setTop (mkF m 40 #[iv p0, iv p1, iv i, iv o, rv (el j), .val (own_ty el o), .unset] [(.int (8 : Int32)), (.int i)])) t → Steps p.tables e below (s₁.setTop (entryFrame m #[(.int p0), (.int p1)] maxLocals)) t := by
            intro t kt
            refine pre37 _ ?_
            show Steps p.tables e below (T34.setTop (mkF m 34 #[iv p0, iv p1, iv i, iv o, rv (el j), .val (own_ty el o), .unset] [(.int (1 : Int32)), (.int i)])) _
            refine XS.icmpNo X34.here hx rfl (hb hby at_34) rfl (flt hc34).1 ?_
            show Steps p.tables e below (T34.setTop (mkF m 37 #[iv p0, iv p1, iv i, iv o, rv (el j), .val (own_ty el o), .unset] [])) _
            refine XS.iloadN X34.here hx rfl (hb hby at_37) rfl ?_
            show Steps p.tables e below (T34.setTop (mkF m 38 #[iv p0, iv p1, iv i, iv o, rv (el j), .val (own_ty el o), .unset] [(.int i)])) _
            refine XS.bipush X34.here hx rfl (hb hby at_38) ?_
            exact kt
          by_cases hc40 : (8 : Int32) < i
          · have pre44 : ∀ t, Steps p.tables e below (T34.setTop (mkF m 45 #[iv p0, iv p1, iv i, iv o, rv (el j), .val (own_ty el o), .unset] [(.int (1 : Int32)), (.int o)])) t → Steps p.tables e below (s₁.setTop (entryFrame m #[(.int p0), (.int p1)] maxLocals)) t := by
              intro t kt
              refine pre43 _ ?_
              show Steps p.tables e below (T34.setTop (mkF m 40 #[iv p0, iv p1, iv i, iv o, rv (el j), .val (own_ty el o), .unset] [(.int (8 : Int32)), (.int i)])) _
              refine XS.icmpNo X34.here hx rfl (hb hby at_40) rfl (tlt hc40).2.2.2 ?_
              show Steps p.tables e below (T34.setTop (mkF m 43 #[iv p0, iv p1, iv i, iv o, rv (el j), .val (own_ty el o), .unset] [])) _
              refine XS.iloadN X34.here hx rfl (hb hby at_43) rfl ?_
              show Steps p.tables e below (T34.setTop (mkF m 44 #[iv p0, iv p1, iv i, iv o, rv (el j), .val (own_ty el o), .unset] [(.int o)])) _
              refine XS.iconst X34.here hx rfl (hb hby at_44) ?_
              exact kt
            by_cases hc45 : o = (1 : Int32)
            · have pre45 : ∀ t, Steps p.tables e below (T34.setTop (mkF m 50 #[iv p0, iv p1, iv i, iv o, rv (el j), .val (own_ty el o), .unset] [(.int (2 : Int32)), (.int i)])) t → Steps p.tables e below (s₁.setTop (entryFrame m #[(.int p0), (.int p1)] maxLocals)) t := by
                intro t kt
                refine pre44 _ ?_
                show Steps p.tables e below (T34.setTop (mkF m 45 #[iv p0, iv p1, iv i, iv o, rv (el j), .val (own_ty el o), .unset] [(.int (1 : Int32)), (.int o)])) _
                refine XS.icmpNo X34.here hx rfl (hb hby at_45) rfl (teq hc45).2 ?_
                show Steps p.tables e below (T34.setTop (mkF m 48 #[iv p0, iv p1, iv i, iv o, rv (el j), .val (own_ty el o), .unset] [])) _
                refine XS.iloadN X34.here hx rfl (hb hby at_48) rfl ?_
                show Steps p.tables e below (T34.setTop (mkF m 49 #[iv p0, iv p1, iv i, iv o, rv (el j), .val (own_ty el o), .unset] [(.int i)])) _
                refine XS.iconst X34.here hx rfl (hb hby at_49) ?_
                exact kt
              by_cases hc50 : i = (2 : Int32)
              · have pre46 : ∀ t, Steps p.tables e below (T34.setTop (mkF m 58 #[iv p0, iv p1, iv i, iv o, rv (el j), .val (own_ty el o), .unset] [(.int (1 : Int32))])) t → Steps p.tables e below (s₁.setTop (entryFrame m #[(.int p0), (.int p1)] maxLocals)) t := by
                  intro t kt
                  refine pre45 _ ?_
                  show Steps p.tables e below (T34.setTop (mkF m 50 #[iv p0, iv p1, iv i, iv o, rv (el j), .val (own_ty el o), .unset] [(.int (2 : Int32)), (.int i)])) _
                  refine XS.icmpNo X34.here hx rfl (hb hby at_50) rfl (teq hc50).2 ?_
                  show Steps p.tables e below (T34.setTop (mkF m 53 #[iv p0, iv p1, iv i, iv o, rv (el j), .val (own_ty el o), .unset] [])) _
                  refine XS.iconst X34.here hx rfl (hb hby at_53) ?_
                  show Steps p.tables e below (T34.setTop (mkF m 54 #[iv p0, iv p1, iv i, iv o, rv (el j), .val (own_ty el o), .unset] [(.int (1 : Int32))])) _
                  refine XS.goto X34.here hx rfl (pc0 := 54) (pc' := 58) rfl (hb hby at_54) (by decide) (by decide) ?_
                  exact kt
                exact ⟨(1 : Int32), Or.inr (Or.inr (Or.inr (Or.inl ⟨hc29, hc34, hc40, hc45, hc50, rfl⟩))), pre46⟩
              · have pre47 : ∀ t, Steps p.tables e below (T34.setTop (mkF m 58 #[iv p0, iv p1, iv i, iv o, rv (el j), .val (own_ty el o), .unset] [(.int (0 : Int32))])) t → Steps p.tables e below (s₁.setTop (entryFrame m #[(.int p0), (.int p1)] maxLocals)) t := by
                  intro t kt
                  refine pre45 _ ?_
                  show Steps p.tables e below (T34.setTop (mkF m 50 #[iv p0, iv p1, iv i, iv o, rv (el j), .val (own_ty el o), .unset] [(.int (2 : Int32)), (.int i)])) _
                  refine XS.icmpYes X34.here hx rfl (pc0 := 50) (pc' := 57) rfl (hb hby at_50) rfl (feq hc50).2 (by decide) (by decide) ?_
                  show Steps p.tables e below (T34.setTop (mkF m 57 #[iv p0, iv p1, iv i, iv o, rv (el j), .val (own_ty el o), .unset] [])) _
                  refine XS.iconst X34.here hx rfl (hb hby at_57) ?_
                  exact kt
                exact ⟨(0 : Int32), Or.inr (Or.inr (Or.inr (Or.inr (Or.inl ⟨hc29, hc34, hc40, hc45, hc50, rfl⟩)))), pre47⟩
            · have pre48 : ∀ t, Steps p.tables e below (T34.setTop (mkF m 58 #[iv p0, iv p1, iv i, iv o, rv (el j), .val (own_ty el o), .unset] [(.int (0 : Int32))])) t → Steps p.tables e below (s₁.setTop (entryFrame m #[(.int p0), (.int p1)] maxLocals)) t := by
                intro t kt
                refine pre44 _ ?_
                show Steps p.tables e below (T34.setTop (mkF m 45 #[iv p0, iv p1, iv i, iv o, rv (el j), .val (own_ty el o), .unset] [(.int (1 : Int32)), (.int o)])) _
                refine XS.icmpYes X34.here hx rfl (pc0 := 45) (pc' := 57) rfl (hb hby at_45) rfl (feq hc45).2 (by decide) (by decide) ?_
                show Steps p.tables e below (T34.setTop (mkF m 57 #[iv p0, iv p1, iv i, iv o, rv (el j), .val (own_ty el o), .unset] [])) _
                refine XS.iconst X34.here hx rfl (hb hby at_57) ?_
                exact kt
              exact ⟨(0 : Int32), Or.inr (Or.inr (Or.inr (Or.inr (Or.inr (Or.inl ⟨hc29, hc34, hc40, hc45, rfl⟩))))), pre48⟩
          · have pre49 : ∀ t, Steps p.tables e below (T34.setTop (mkF m 58 #[iv p0, iv p1, iv i, iv o, rv (el j), .val (own_ty el o), .unset] [(.int (1 : Int32))])) t → Steps p.tables e below (s₁.setTop (entryFrame m #[(.int p0), (.int p1)] maxLocals)) t := by
              intro t kt
              refine pre43 _ ?_
              show Steps p.tables e below (T34.setTop (mkF m 40 #[iv p0, iv p1, iv i, iv o, rv (el j), .val (own_ty el o), .unset] [(.int (8 : Int32)), (.int i)])) _
              refine XS.icmpYes X34.here hx rfl (pc0 := 40) (pc' := 53) rfl (hb hby at_40) rfl (flt hc40).2.2.2 (by decide) (by decide) ?_
              show Steps p.tables e below (T34.setTop (mkF m 53 #[iv p0, iv p1, iv i, iv o, rv (el j), .val (own_ty el o), .unset] [])) _
              refine XS.iconst X34.here hx rfl (hb hby at_53) ?_
              show Steps p.tables e below (T34.setTop (mkF m 54 #[iv p0, iv p1, iv i, iv o, rv (el j), .val (own_ty el o), .unset] [(.int (1 : Int32))])) _
              refine XS.goto X34.here hx rfl (pc0 := 54) (pc' := 58) rfl (hb hby at_54) (by decide) (by decide) ?_
              exact kt
            exact ⟨(1 : Int32), Or.inr (Or.inr (Or.inr (Or.inr (Or.inr (Or.inr (Or.inl ⟨hc29, hc34, hc40, rfl⟩)))))), pre49⟩
      · have pre50 : ∀ t, Steps p.tables e below (T34.setTop (mkF m 45 #[iv p0, iv p1, iv i, iv o, rv (el j), .val (own_ty el o), .unset] [(.int (1 : Int32)), (.int o)])) t → Steps p.tables e below (s₁.setTop (entryFrame m #[(.int p0), (.int p1)] maxLocals)) t := by
          intro t kt
          refine pre36 _ ?_
          show Steps p.tables e below (T34.setTop (mkF m 29 #[iv p0, iv p1, iv i, iv o, rv (el j), .val (own_ty el o), .unset] [(.int o)])) _
          refine XS.ifYes X34.here hx rfl (pc0 := 29) (pc' := 43) rfl (hb hby at_29) rfl ((if0 _ _).trans (feq hc29).2) (by decide) (by decide) ?_
          show Steps p.tables e below (T34.setTop (mkF m 43 #[iv p0, iv p1, iv i, iv o, rv (el j), .val (own_ty el o), .unset] [])) _
          refine XS.iloadN X34.here hx rfl (hb hby at_43) rfl ?_
          show Steps p.tables e below (T34.setTop (mkF m 44 #[iv p0, iv p1, iv i, iv o, rv (el j), .val (own_ty el o), .unset] [(.int o)])) _
          refine XS.iconst X34.here hx rfl (hb hby at_44) ?_
          exact kt
        by_cases hc45 : o = (1 : Int32)
        · have pre51 : ∀ t, Steps p.tables e below (T34.setTop (mkF m 50 #[iv p0, iv p1, iv i, iv o, rv (el j), .val (own_ty el o), .unset] [(.int (2 : Int32)), (.int i)])) t → Steps p.tables e below (s₁.setTop (entryFrame m #[(.int p0), (.int p1)] maxLocals)) t := by
            intro t kt
            refine pre50 _ ?_
            show Steps p.tables e below (T34.setTop (mkF m 45 #[iv p0, iv p1, iv i, iv o, rv (el j), .val (own_ty el o), .unset] [(.int (1 : Int32)), (.int o)])) _
            refine XS.icmpNo X34.here hx rfl (hb hby at_45) rfl (teq hc45).2 ?_
            show Steps p.tables e below (T34.setTop (mkF m 48 #[iv p0, iv p1, iv i, iv o, rv (el j), .val (own_ty el o), .unset] [])) _
            refine XS.iloadN X34.here hx rfl (hb hby at_48) rfl ?_
            show Steps p.tables e below (T34.setTop (mkF m 49 #[iv p0, iv p1, iv i, iv o, rv (el j), .val (own_ty el o), .unset] [(.int i)])) _
            refine XS.iconst X34.here hx rfl (hb hby at_49) ?_
            exact kt
          by_cases hc50 : i = (2 : Int32)
          · have pre52 : ∀ t, Steps p.tables e below (T34.setTop (mkF m 58 #[iv p0, iv p1, iv i, iv o, rv (el j), .val (own_ty el o), .unset] [(.int (1 : Int32))])) t → Steps p.tables e below (s₁.setTop (entryFrame m #[(.int p0), (.int p1)] maxLocals)) t := by
              intro t kt
              refine pre51 _ ?_
              show Steps p.tables e below (T34.setTop (mkF m 50 #[iv p0, iv p1, iv i, iv o, rv (el j), .val (own_ty el o), .unset] [(.int (2 : Int32)), (.int i)])) _
              refine XS.icmpNo X34.here hx rfl (hb hby at_50) rfl (teq hc50).2 ?_
              show Steps p.tables e below (T34.setTop (mkF m 53 #[iv p0, iv p1, iv i, iv o, rv (el j), .val (own_ty el o), .unset] [])) _
              refine XS.iconst X34.here hx rfl (hb hby at_53) ?_
              show Steps p.tables e below (T34.setTop (mkF m 54 #[iv p0, iv p1, iv i, iv o, rv (el j), .val (own_ty el o), .unset] [(.int (1 : Int32))])) _
              refine XS.goto X34.here hx rfl (pc0 := 54) (pc' := 58) rfl (hb hby at_54) (by decide) (by decide) ?_
              exact kt
            exact ⟨(1 : Int32), Or.inr (Or.inr (Or.inr (Or.inr (Or.inr (Or.inr (Or.inr (Or.inl ⟨hc29, hc45, hc50, rfl⟩))))))), pre52⟩
          · have pre53 : ∀ t, Steps p.tables e below (T34.setTop (mkF m 58 #[iv p0, iv p1, iv i, iv o, rv (el j), .val (own_ty el o), .unset] [(.int (0 : Int32))])) t → Steps p.tables e below (s₁.setTop (entryFrame m #[(.int p0), (.int p1)] maxLocals)) t := by
              intro t kt
              refine pre51 _ ?_
              show Steps p.tables e below (T34.setTop (mkF m 50 #[iv p0, iv p1, iv i, iv o, rv (el j), .val (own_ty el o), .unset] [(.int (2 : Int32)), (.int i)])) _
              refine XS.icmpYes X34.here hx rfl (pc0 := 50) (pc' := 57) rfl (hb hby at_50) rfl (feq hc50).2 (by decide) (by decide) ?_
              show Steps p.tables e below (T34.setTop (mkF m 57 #[iv p0, iv p1, iv i, iv o, rv (el j), .val (own_ty el o), .unset] [])) _
              refine XS.iconst X34.here hx rfl (hb hby at_57) ?_
              exact kt
            exact ⟨(0 : Int32), Or.inr (Or.inr (Or.inr (Or.inr (Or.inr (Or.inr (Or.inr (Or.inr (Or.inl ⟨hc29, hc45, hc50, rfl⟩)))))))), pre53⟩
        · have pre54 : ∀ t, Steps p.tables e below (T34.setTop (mkF m 58 #[iv p0, iv p1, iv i, iv o, rv (el j), .val (own_ty el o), .unset] [(.int (0 : Int32))])) t → Steps p.tables e below (s₁.setTop (entryFrame m #[(.int p0), (.int p1)] maxLocals)) t := by
            intro t kt
            refine pre50 _ ?_
            show Steps p.tables e below (T34.setTop (mkF m 45 #[iv p0, iv p1, iv i, iv o, rv (el j), .val (own_ty el o), .unset] [(.int (1 : Int32)), (.int o)])) _
            refine XS.icmpYes X34.here hx rfl (pc0 := 45) (pc' := 57) rfl (hb hby at_45) rfl (feq hc45).2 (by decide) (by decide) ?_
            show Steps p.tables e below (T34.setTop (mkF m 57 #[iv p0, iv p1, iv i, iv o, rv (el j), .val (own_ty el o), .unset] [])) _
            refine XS.iconst X34.here hx rfl (hb hby at_57) ?_
            exact kt
          exact ⟨(0 : Int32), Or.inr (Or.inr (Or.inr (Or.inr (Or.inr (Or.inr (Or.inr (Or.inr (Or.inr (⟨hc29, hc45, rfl⟩))))))))), pre54⟩
    have pre57 : ∀ t, Steps p.tables e below (T34.setTop (mkF m 64 #[iv p0, iv p1, iv i, iv o, rv (el j), .val (own_ty el o), iv exp] [(own_ty el o), (.ref (el j))])) t → Steps p.tables e below (s₁.setTop (entryFrame m #[(.int p0), (.int p1)] maxLocals)) t := by
      intro t kt
      refine pre56 _ ?_
      show Steps p.tables e below (T34.setTop (mkF m 58 #[iv p0, iv p1, iv i, iv o, rv (el j), .val (own_ty el o), .unset] [(.int exp)])) _
      refine XS.istore X34.here hx rfl (hb hby at_58) rfl (l' := #[iv p0, iv p1, iv i, iv o, rv (el j), .val (own_ty el o), iv exp]) rfl ?_
      show Steps p.tables e below (T34.setTop (mkF m 60 #[iv p0, iv p1, iv i, iv o, rv (el j), .val (own_ty el o), iv exp] [])) _
      refine XS.aload X34.here hx rfl (hb hby at_60) rfl rfl ?_
      show Steps p.tables e below (T34.setTop (mkF m 62 #[iv p0, iv p1, iv i, iv o, rv (el j), .val (own_ty el o), iv exp] [(.ref (el j))])) _
      refine XS.aload X34.here hx rfl (hb hby at_62) rfl (own_isref el o (h_o ▸ own_rem p1 11 11 (by decide) (by decide))) ?_
      exact kt
    obtain ⟨cq58, kq58, q58a, q58b, q58c⟩ := isOf hZ hh34 (hE j (by omega))
    obtain ⟨_, _, ⟨T58, L58, k58, n58⟩, -, X58, ⟨Lc58, hQ58, l58, y58, z58⟩, st58⟩ := X34.virtualBack hx (y := (⟨"com/example/subject/subject/model/EntityType", "livesIn", "(Lcom/example/subject/subject/model/EntityType;)Z"⟩ : MethodName)) (z := (⟨"com/example/subject/subject/model/EntityType", "livesIn", "(Lcom/example/subject/subject/model/EntityType;)Z"⟩ : MethodName)) hown (mvT hZ (hw _ (List.mem_of_getElem? (i := 10) rfl))) (mvT hZ (hw _ (List.mem_of_getElem? (i := 11) rfl))) (notFace_of_selects (args := #[]) (mvT hZ (hw _ (List.mem_of_getElem? (i := 13) rfl)))) (mvT hZ (hw _ (List.mem_of_getElem? (i := 13) rfl))) (mvT hZ (hw _ (List.mem_of_getElem? (i := 12) rfl))) (by decide) (backOf (W := 0) (rm2b l Z a0 hw [] (el j) (own_ty el o) (el 0) h0 n0 (Nat.le_trans Z0 (Keep.refl h0 []).1) (own_isref el o (h_o ▸ own_rem p1 11 11 (by decide) (by decide))) (hB j hj) (hA 0 (Or.inl rfl))) hZ (hw _ (List.mem_of_getElem? (i := 14) rfl)) (hw _ (List.mem_of_getElem? (i := 6) rfl)) (by decide) (by decide)) q58a q58c (g := (mkF m 64 #[iv p0, iv p1, iv i, iv o, rv (el j), .val (own_ty el o), iv exp] [(own_ty el o), (.ref (el j))])) rfl (by rw [hml]; rfl) (Steps.refl _) (argsL := [(own_ty el o)]) (rest := []) (lenOf pd3 rfl) rfl (by show 2 * 0 + _ ≤ _; exact Nat.le_of_eq rfl) (hb hby at_64) (fun _ _ => ⟨rfl, hh34, (by decide : 0 + 0 ≤ _), (by decide : 0 + 0 ≤ _)⟩)
    dsimp only [Pt.U, Pt.locs, Pt.cells, Pt.slots] at X58 l58 y58 z58 st58 hQ58
    subst l58 y58 z58
    obtain ⟨rfl, N58q, hh58⟩ := hQ58
    have N58 := Fr.app N34 N58q
    have pre59 : ∀ t, Steps p.tables e below (T58.setTop (mkF m 69 #[iv p0, iv p1, iv i, iv o, rv (el j), .val (own_ty el o), iv exp] [(.int exp), (.int (own_l1 (el 0) (own_ty el o)))])) t → Steps p.tables e below (s₁.setTop (entryFrame m #[(.int p0), (.int p1)] maxLocals)) t := by
      intro t kt
      refine pre57 _ ?_
      show Steps p.tables e below (T34.setTop (mkF m 64 #[iv p0, iv p1, iv i, iv o, rv (el j), .val (own_ty el o), iv exp] [(own_ty el o), (.ref (el j))])) _
      refine st58.trans ?_
      show Steps p.tables e below (T58.setTop (mkF m 67 #[iv p0, iv p1, iv i, iv o, rv (el j), .val (own_ty el o), iv exp] [(.int (own_l1 (el 0) (own_ty el o)))])) _
      refine XS.iload X58.here hx rfl (hb hby at_67) rfl ?_
      exact kt
    by_cases hc69 : (own_l1 (el 0) (own_ty el o)) = exp
    · have pre60 : ∀ t, Steps p.tables e below (T58.setTop (mkF m 77 #[iv p0, iv p1, iv i, iv o, rv (el j), .val (own_ty el o), iv exp] [(.int (1 : Int32))])) t → Steps p.tables e below (s₁.setTop (entryFrame m #[(.int p0), (.int p1)] maxLocals)) t := by
        intro t kt
        refine pre59 _ ?_
        show Steps p.tables e below (T58.setTop (mkF m 69 #[iv p0, iv p1, iv i, iv o, rv (el j), .val (own_ty el o), iv exp] [(.int exp), (.int (own_l1 (el 0) (own_ty el o)))])) _
        refine XS.icmpNo X58.here hx rfl (hb hby at_69) rfl (teq hc69).2 ?_
        show Steps p.tables e below (T58.setTop (mkF m 72 #[iv p0, iv p1, iv i, iv o, rv (el j), .val (own_ty el o), iv exp] [])) _
        refine XS.iconst X58.here hx rfl (hb hby at_72) ?_
        show Steps p.tables e below (T58.setTop (mkF m 73 #[iv p0, iv p1, iv i, iv o, rv (el j), .val (own_ty el o), iv exp] [(.int (1 : Int32))])) _
        refine XS.goto X58.here hx rfl (pc0 := 73) (pc' := 77) rfl (hb hby at_73) (by decide) (by decide) ?_
        exact kt
      obtain ⟨fs, hr, hrun, hended, hW, hsame⟩ := X58.leave (v := some (.int (1 : Int32))) (fun h => by rw [Bd.returns] at h; cases h)
      refine ⟨_, _, pre60 _ ?_, hrun, hended, _, _, rfl, ?_, ⟨_, rfl⟩, hW, hsame.mono (by decide) (by decide)⟩
      · show Steps p.tables e below (T58.setTop (mkF m 77 #[iv p0, iv p1, iv i, iv o, rv (el j), .val (own_ty el o), iv exp] [(.int (1 : Int32))])) _
        exact retN X58 hx (t := .boolean) Bd.returns (by simp) (hb hby at_77) hr
      · show Q0 Z p0 p1 el h0 n0 _ T58.heap _
        rw [hh58]
        exact ⟨rfl, N58⟩
    · have pre61 : ∀ t, Steps p.tables e below (T58.setTop (mkF m 77 #[iv p0, iv p1, iv i, iv o, rv (el j), .val (own_ty el o), iv exp] [(.int (0 : Int32))])) t → Steps p.tables e below (s₁.setTop (entryFrame m #[(.int p0), (.int p1)] maxLocals)) t := by
        intro t kt
        refine pre59 _ ?_
        show Steps p.tables e below (T58.setTop (mkF m 69 #[iv p0, iv p1, iv i, iv o, rv (el j), .val (own_ty el o), iv exp] [(.int exp), (.int (own_l1 (el 0) (own_ty el o)))])) _
        refine XS.icmpYes X58.here hx rfl (pc0 := 69) (pc' := 76) rfl (hb hby at_69) rfl (feq hc69).2 (by decide) (by decide) ?_
        show Steps p.tables e below (T58.setTop (mkF m 76 #[iv p0, iv p1, iv i, iv o, rv (el j), .val (own_ty el o), iv exp] [])) _
        refine XS.iconst X58.here hx rfl (hb hby at_76) ?_
        exact kt
      exfalso
      refine hc69 ?_
      rw [own_exp i o exp (h_i ▸ own_rem p0 10 10 (by decide) (by decide)) (h_o ▸ own_rem p1 11 11 (by decide) (by decide)) hexp]
      have q0 := own_eq el hinj o (h_o ▸ own_rem p1 11 11 (by decide) (by decide)) 0 (by decide)
      unfold own_l1
      by_cases c : o.toInt = 0
      · rw [if_pos (q0.mpr c), if_pos]; omega
      · rw [if_neg (mt q0.mp c), if_neg]; omega
  · have pre62 : ∀ t, Steps p.tables e below (T2.setTop (mkF m 23 #[iv p0, iv p1, iv i, iv o, rv (el 2), .unset, .unset] [(.int o)])) t → Steps p.tables e below (s₁.setTop (entryFrame m #[(.int p0), (.int p1)] maxLocals)) t := by
      intro t kt
      refine pre3 _ ?_
      show Steps p.tables e below (T2.setTop (mkF m 20 #[iv p0, iv p1, iv i, iv o, .unset, .unset, .unset] [(own_ty el i)])) _
      rw [hty]
      show Steps p.tables e below (T2.setTop (mkF m 20 #[iv p0, iv p1, iv i, iv o, .unset, .unset, .unset] [(.ref (el 2))])) _
      refine XS.astore X2.here hx rfl (hb hby at_20) rfl rfl (l' := #[iv p0, iv p1, iv i, iv o, rv (el 2), .unset, .unset]) rfl ?_
      show Steps p.tables e below (T2.setTop (mkF m 22 #[iv p0, iv p1, iv i, iv o, rv (el 2), .unset, .unset] [])) _
      refine XS.iloadN X2.here hx rfl (hb hby at_22) rfl ?_
      exact kt
    obtain ⟨_, _, ⟨T63, L63, k63, n63⟩, -, X63, ⟨Lc63, hQ63, l63, y63, z63⟩, st63⟩ := Jvm.LawKit.callS X2 hx (y := (⟨"com/example/subject/subject/model/EntityTypeLivesInPinLaw", "type", "(I)Lcom/example/subject/subject/model/EntityType;"⟩ : MethodName)) hown (mvT hZ (hw _ (List.mem_of_getElem? (i := 1) rfl))) (mvT hZ (hw _ (List.mem_of_getElem? (i := 2) rfl))) (mvT hZ (hw _ (List.mem_of_getElem? (i := 3) rfl))) (mvT hZ (hw _ (List.mem_of_getElem? (i := 4) rfl))) (by decide) (backOf (W := 0) (rm1 l Z a0 hw [] o el h0 n0 (Nat.le_trans Z0 (Keep.refl h0 []).1) (O0.keep (Keep.refl h0 []) all0) S_NAMESPACE S_APPLICATION S_PROGRAM S_DATASET S_STREAM S_ARTIFACT S_DATASET_TYPE S_DATASET_MODULE S_SECUREKEY S_KERBEROSPRINCIPAL) hZ (hw _ (List.mem_of_getElem? (i := 4) rfl)) (hw _ (List.mem_of_getElem? (i := 3) rfl)) (by decide) (by decide)) (g := (mkF m 23 #[iv p0, iv p1, iv i, iv o, rv (el 2), .unset, .unset] [(.int o)])) rfl (by rw [hml]; rfl) (argsL := [(.int o)]) (rest := []) (lenOf pd2 rfl) rfl (by show 2 * 0 + _ ≤ _; exact Nat.le_of_eq rfl) (hb hby at_23) (fun _ _ => ⟨rfl, hh2, (by decide : 0 + 0 ≤ _), (by decide : 0 + 0 ≤ _)⟩)
    dsimp only [Pt.U, Pt.locs, Pt.cells, Pt.slots] at X63 l63 y63 z63 st63 hQ63
    subst l63 y63 z63
    obtain ⟨rfl, N63q, hh63⟩ := hQ63
    have N63 := Fr.app N2 N63q
    have pre64 : ∀ t, Steps p.tables e below (T63.setTop (mkF m 28 #[iv p0, iv p1, iv i, iv o, rv (el 2), .val (own_ty el o), .unset] [])) t → Steps p.tables e below (s₁.setTop (entryFrame m #[(.int p0), (.int p1)] maxLocals)) t := by
      intro t kt
      refine pre62 _ ?_
      show Steps p.tables e below (T2.setTop (mkF m 23 #[iv p0, iv p1, iv i, iv o, rv (el 2), .unset, .unset] [(.int o)])) _
      refine st63 _ ?_
      show Steps p.tables e below (T63.setTop (mkF m 26 #[iv p0, iv p1, iv i, iv o, rv (el 2), .unset, .unset] [(own_ty el o)])) _
      refine XS.astore X63.here hx rfl (hb hby at_26) rfl (own_isref el o (h_o ▸ own_rem p1 11 11 (by decide) (by decide))) (l' := #[iv p0, iv p1, iv i, iv o, rv (el 2), .val (own_ty el o), .unset]) (by rcases ref_cases (own_isref el o (h_o ▸ own_rem p1 11 11 (by decide) (by decide))) with q | ⟨_, q⟩ <;> rw [q] <;> rfl) ?_
      exact kt
    obtain ⟨exp, hexp, pre85⟩ : ∃ (exp : Int32), (((o = (0 : Int32)) ∧ (i < (1 : Int32)) ∧ (o = (1 : Int32)) ∧ (i = (2 : Int32)) ∧ exp = (1 : Int32)) ∨ ((o = (0 : Int32)) ∧ (i < (1 : Int32)) ∧ (o = (1 : Int32)) ∧ (¬ (i = (2 : Int32))) ∧ exp = (0 : Int32)) ∨ ((o = (0 : Int32)) ∧ (i < (1 : Int32)) ∧ (¬ (o = (1 : Int32))) ∧ exp = (0 : Int32)) ∨ ((o = (0 : Int32)) ∧ (¬ (i < (1 : Int32))) ∧ ((8 : Int32) < i) ∧ (o = (1 : Int32)) ∧ (i = (2 : Int32)) ∧ exp = (1 : Int32)) ∨ ((o = (0 : Int32)) ∧ (¬ (i < (1 : Int32))) ∧ ((8 : Int32) < i) ∧ (o = (1 : Int32)) ∧ (¬ (i = (2 : Int32))) ∧ exp = (0 : Int32)) ∨ ((o = (0 : Int32)) ∧ (¬ (i < (1 : Int32))) ∧ ((8 : Int32) < i) ∧ (¬ (o = (1 : Int32))) ∧ exp = (0 : Int32)) ∨ ((o = (0 : Int32)) ∧ (¬ (i < (1 : Int32))) ∧ (¬ ((8 : Int32) < i)) ∧ exp = (1 : Int32)) ∨ ((¬ (o = (0 : Int32))) ∧ (o = (1 : Int32)) ∧ (i = (2 : Int32)) ∧ exp = (1 : Int32)) ∨ ((¬ (o = (0 : Int32))) ∧ (o = (1 : Int32)) ∧ (¬ (i = (2 : Int32))) ∧ exp = (0 : Int32)) ∨ ((¬ (o = (0 : Int32))) ∧ (¬ (o = (1 : Int32))) ∧ exp = (0 : Int32))) ∧ ∀ t, Steps p.tables e below (T63.setTop (mkF m 58 #[iv p0, iv p1, iv i, iv o, rv (el 2), .val (own_ty el o), .unset] [(.int exp)])) t → Steps p.tables e below (s₁.setTop (entryFrame m #[(.int p0), (.int p1)] maxLocals)) t := by
      have pre65 : ∀ t, Steps p.tables e below (T63.setTop (mkF m 29 #[iv p0, iv p1, iv i, iv o, rv (el 2), .val (own_ty el o), .unset] [(.int o)])) t → Steps p.tables e below (s₁.setTop (entryFrame m #[(.int p0), (.int p1)] maxLocals)) t := by
        intro t kt
        refine pre64 _ ?_
        show Steps p.tables e below (T63.setTop (mkF m 28 #[iv p0, iv p1, iv i, iv o, rv (el 2), .val (own_ty el o), .unset] [])) _
        refine XS.iloadN X63.here hx rfl (hb hby at_28) rfl ?_
        exact kt
      by_cases hc29 : o = (0 : Int32)
      · have pre66 : ∀ t, Steps p.tables e below (T63.setTop (mkF m 34 #[iv p0, iv p1, iv i, iv o, rv (el 2), .val (own_ty el o), .unset] [(.int (1 : Int32)), (.int i)])) t → Steps p.tables e below (s₁.setTop (entryFrame m #[(.int p0), (.int p1)] maxLocals)) t := by
          intro t kt
          refine pre65 _ ?_
          show Steps p.tables e below (T63.setTop (mkF m 29 #[iv p0, iv p1, iv i, iv o, rv (el 2), .val (own_ty el o), .unset] [(.int o)])) _
          refine XS.ifNo X63.here hx rfl (hb hby at_29) rfl ((if0 _ _).trans (teq hc29).2) ?_
          show Steps p.tables e below (T63.setTop (mkF m 32 #[iv p0, iv p1, iv i, iv o, rv (el 2), .val (own_ty el o), .unset] [])) _
          refine XS.iloadN X63.here hx rfl (hb hby at_32) rfl ?_
          show Steps p.tables e below (T63.setTop (mkF m 33 #[iv p0, iv p1, iv i, iv o, rv (el 2), .val (own_ty el o), .unset] [(.int i)])) _
          refine XS.iconst X63.here hx rfl (hb hby at_33) ?_
          exact kt
        by_cases hc34 : i < (1 : Int32)
        · have pre67 : ∀ t, Steps p.tables e below (T63.setTop (mkF m 45 #[iv p0, iv p1, iv i, iv o, rv (el 2), .val (own_ty el o), .unset] [(.int (1 : Int32)), (.int o)])) t → Steps p.tables e below (s₁.setTop (entryFrame m #[(.int p0), (.int p1)] maxLocals)) t := by
            intro t kt
            refine pre66 _ ?_
            show Steps p.tables e below (T63.setTop (mkF m 34 #[iv p0, iv p1, iv i, iv o, rv (el 2), .val (own_ty el o), .unset] [(.int (1 : Int32)), (.int i)])) _
            refine XS.icmpYes X63.here hx rfl (pc0 := 34) (pc' := 43) rfl (hb hby at_34) rfl (tlt hc34).1 (by decide) (by decide) ?_
            show Steps p.tables e below (T63.setTop (mkF m 43 #[iv p0, iv p1, iv i, iv o, rv (el 2), .val (own_ty el o), .unset] [])) _
            refine XS.iloadN X63.here hx rfl (hb hby at_43) rfl ?_
            show Steps p.tables e below (T63.setTop (mkF m 44 #[iv p0, iv p1, iv i, iv o, rv (el 2), .val (own_ty el o), .unset] [(.int o)])) _
            refine XS.iconst X63.here hx rfl (hb hby at_44) ?_
            exact kt
          by_cases hc45 : o = (1 : Int32)
          · have pre68 : ∀ t, Steps p.tables e below (T63.setTop (mkF m 50 #[iv p0, iv p1, iv i, iv o, rv (el 2), .val (own_ty el o), .unset] [(.int (2 : Int32)), (.int i)])) t → Steps p.tables e below (s₁.setTop (entryFrame m #[(.int p0), (.int p1)] maxLocals)) t := by
              intro t kt
              refine pre67 _ ?_
              show Steps p.tables e below (T63.setTop (mkF m 45 #[iv p0, iv p1, iv i, iv o, rv (el 2), .val (own_ty el o), .unset] [(.int (1 : Int32)), (.int o)])) _
              refine XS.icmpNo X63.here hx rfl (hb hby at_45) rfl (teq hc45).2 ?_
              show Steps p.tables e below (T63.setTop (mkF m 48 #[iv p0, iv p1, iv i, iv o, rv (el 2), .val (own_ty el o), .unset] [])) _
              refine XS.iloadN X63.here hx rfl (hb hby at_48) rfl ?_
              show Steps p.tables e below (T63.setTop (mkF m 49 #[iv p0, iv p1, iv i, iv o, rv (el 2), .val (own_ty el o), .unset] [(.int i)])) _
              refine XS.iconst X63.here hx rfl (hb hby at_49) ?_
              exact kt
            by_cases hc50 : i = (2 : Int32)
            · have pre69 : ∀ t, Steps p.tables e below (T63.setTop (mkF m 58 #[iv p0, iv p1, iv i, iv o, rv (el 2), .val (own_ty el o), .unset] [(.int (1 : Int32))])) t → Steps p.tables e below (s₁.setTop (entryFrame m #[(.int p0), (.int p1)] maxLocals)) t := by
                intro t kt
                refine pre68 _ ?_
                show Steps p.tables e below (T63.setTop (mkF m 50 #[iv p0, iv p1, iv i, iv o, rv (el 2), .val (own_ty el o), .unset] [(.int (2 : Int32)), (.int i)])) _
                refine XS.icmpNo X63.here hx rfl (hb hby at_50) rfl (teq hc50).2 ?_
                show Steps p.tables e below (T63.setTop (mkF m 53 #[iv p0, iv p1, iv i, iv o, rv (el 2), .val (own_ty el o), .unset] [])) _
                refine XS.iconst X63.here hx rfl (hb hby at_53) ?_
                show Steps p.tables e below (T63.setTop (mkF m 54 #[iv p0, iv p1, iv i, iv o, rv (el 2), .val (own_ty el o), .unset] [(.int (1 : Int32))])) _
                refine XS.goto X63.here hx rfl (pc0 := 54) (pc' := 58) rfl (hb hby at_54) (by decide) (by decide) ?_
                exact kt
              exact ⟨(1 : Int32), Or.inl ⟨hc29, hc34, hc45, hc50, rfl⟩, pre69⟩
            · have pre70 : ∀ t, Steps p.tables e below (T63.setTop (mkF m 58 #[iv p0, iv p1, iv i, iv o, rv (el 2), .val (own_ty el o), .unset] [(.int (0 : Int32))])) t → Steps p.tables e below (s₁.setTop (entryFrame m #[(.int p0), (.int p1)] maxLocals)) t := by
                intro t kt
                refine pre68 _ ?_
                show Steps p.tables e below (T63.setTop (mkF m 50 #[iv p0, iv p1, iv i, iv o, rv (el 2), .val (own_ty el o), .unset] [(.int (2 : Int32)), (.int i)])) _
                refine XS.icmpYes X63.here hx rfl (pc0 := 50) (pc' := 57) rfl (hb hby at_50) rfl (feq hc50).2 (by decide) (by decide) ?_
                show Steps p.tables e below (T63.setTop (mkF m 57 #[iv p0, iv p1, iv i, iv o, rv (el 2), .val (own_ty el o), .unset] [])) _
                refine XS.iconst X63.here hx rfl (hb hby at_57) ?_
                exact kt
              exact ⟨(0 : Int32), Or.inr (Or.inl ⟨hc29, hc34, hc45, hc50, rfl⟩), pre70⟩
          · have pre71 : ∀ t, Steps p.tables e below (T63.setTop (mkF m 58 #[iv p0, iv p1, iv i, iv o, rv (el 2), .val (own_ty el o), .unset] [(.int (0 : Int32))])) t → Steps p.tables e below (s₁.setTop (entryFrame m #[(.int p0), (.int p1)] maxLocals)) t := by
              intro t kt
              refine pre67 _ ?_
              show Steps p.tables e below (T63.setTop (mkF m 45 #[iv p0, iv p1, iv i, iv o, rv (el 2), .val (own_ty el o), .unset] [(.int (1 : Int32)), (.int o)])) _
              refine XS.icmpYes X63.here hx rfl (pc0 := 45) (pc' := 57) rfl (hb hby at_45) rfl (feq hc45).2 (by decide) (by decide) ?_
              show Steps p.tables e below (T63.setTop (mkF m 57 #[iv p0, iv p1, iv i, iv o, rv (el 2), .val (own_ty el o), .unset] [])) _
              refine XS.iconst X63.here hx rfl (hb hby at_57) ?_
              exact kt
            exact ⟨(0 : Int32), Or.inr (Or.inr (Or.inl ⟨hc29, hc34, hc45, rfl⟩)), pre71⟩
        · have pre72 : ∀ t, Steps p.tables e below (T63.setTop (mkF m 40 #[iv p0, iv p1, iv i, iv o, rv (el 2), .val (own_ty el o), .unset] [(.int (8 : Int32)), (.int i)])) t → Steps p.tables e below (s₁.setTop (entryFrame m #[(.int p0), (.int p1)] maxLocals)) t := by
            intro t kt
            refine pre66 _ ?_
            show Steps p.tables e below (T63.setTop (mkF m 34 #[iv p0, iv p1, iv i, iv o, rv (el 2), .val (own_ty el o), .unset] [(.int (1 : Int32)), (.int i)])) _
            refine XS.icmpNo X63.here hx rfl (hb hby at_34) rfl (flt hc34).1 ?_
            show Steps p.tables e below (T63.setTop (mkF m 37 #[iv p0, iv p1, iv i, iv o, rv (el 2), .val (own_ty el o), .unset] [])) _
            refine XS.iloadN X63.here hx rfl (hb hby at_37) rfl ?_
            show Steps p.tables e below (T63.setTop (mkF m 38 #[iv p0, iv p1, iv i, iv o, rv (el 2), .val (own_ty el o), .unset] [(.int i)])) _
            refine XS.bipush X63.here hx rfl (hb hby at_38) ?_
            exact kt
          by_cases hc40 : (8 : Int32) < i
          · have pre73 : ∀ t, Steps p.tables e below (T63.setTop (mkF m 45 #[iv p0, iv p1, iv i, iv o, rv (el 2), .val (own_ty el o), .unset] [(.int (1 : Int32)), (.int o)])) t → Steps p.tables e below (s₁.setTop (entryFrame m #[(.int p0), (.int p1)] maxLocals)) t := by
              intro t kt
              refine pre72 _ ?_
              show Steps p.tables e below (T63.setTop (mkF m 40 #[iv p0, iv p1, iv i, iv o, rv (el 2), .val (own_ty el o), .unset] [(.int (8 : Int32)), (.int i)])) _
              refine XS.icmpNo X63.here hx rfl (hb hby at_40) rfl (tlt hc40).2.2.2 ?_
              show Steps p.tables e below (T63.setTop (mkF m 43 #[iv p0, iv p1, iv i, iv o, rv (el 2), .val (own_ty el o), .unset] [])) _
              refine XS.iloadN X63.here hx rfl (hb hby at_43) rfl ?_
              show Steps p.tables e below (T63.setTop (mkF m 44 #[iv p0, iv p1, iv i, iv o, rv (el 2), .val (own_ty el o), .unset] [(.int o)])) _
              refine XS.iconst X63.here hx rfl (hb hby at_44) ?_
              exact kt
            by_cases hc45 : o = (1 : Int32)
            · have pre74 : ∀ t, Steps p.tables e below (T63.setTop (mkF m 50 #[iv p0, iv p1, iv i, iv o, rv (el 2), .val (own_ty el o), .unset] [(.int (2 : Int32)), (.int i)])) t → Steps p.tables e below (s₁.setTop (entryFrame m #[(.int p0), (.int p1)] maxLocals)) t := by
                intro t kt
                refine pre73 _ ?_
                show Steps p.tables e below (T63.setTop (mkF m 45 #[iv p0, iv p1, iv i, iv o, rv (el 2), .val (own_ty el o), .unset] [(.int (1 : Int32)), (.int o)])) _
                refine XS.icmpNo X63.here hx rfl (hb hby at_45) rfl (teq hc45).2 ?_
                show Steps p.tables e below (T63.setTop (mkF m 48 #[iv p0, iv p1, iv i, iv o, rv (el 2), .val (own_ty el o), .unset] [])) _
                refine XS.iloadN X63.here hx rfl (hb hby at_48) rfl ?_
                show Steps p.tables e below (T63.setTop (mkF m 49 #[iv p0, iv p1, iv i, iv o, rv (el 2), .val (own_ty el o), .unset] [(.int i)])) _
                refine XS.iconst X63.here hx rfl (hb hby at_49) ?_
                exact kt
              by_cases hc50 : i = (2 : Int32)
              · have pre75 : ∀ t, Steps p.tables e below (T63.setTop (mkF m 58 #[iv p0, iv p1, iv i, iv o, rv (el 2), .val (own_ty el o), .unset] [(.int (1 : Int32))])) t → Steps p.tables e below (s₁.setTop (entryFrame m #[(.int p0), (.int p1)] maxLocals)) t := by
                  intro t kt
                  refine pre74 _ ?_
                  show Steps p.tables e below (T63.setTop (mkF m 50 #[iv p0, iv p1, iv i, iv o, rv (el 2), .val (own_ty el o), .unset] [(.int (2 : Int32)), (.int i)])) _
                  refine XS.icmpNo X63.here hx rfl (hb hby at_50) rfl (teq hc50).2 ?_
                  show Steps p.tables e below (T63.setTop (mkF m 53 #[iv p0, iv p1, iv i, iv o, rv (el 2), .val (own_ty el o), .unset] [])) _
                  refine XS.iconst X63.here hx rfl (hb hby at_53) ?_
                  show Steps p.tables e below (T63.setTop (mkF m 54 #[iv p0, iv p1, iv i, iv o, rv (el 2), .val (own_ty el o), .unset] [(.int (1 : Int32))])) _
                  refine XS.goto X63.here hx rfl (pc0 := 54) (pc' := 58) rfl (hb hby at_54) (by decide) (by decide) ?_
                  exact kt
                exact ⟨(1 : Int32), Or.inr (Or.inr (Or.inr (Or.inl ⟨hc29, hc34, hc40, hc45, hc50, rfl⟩))), pre75⟩
              · have pre76 : ∀ t, Steps p.tables e below (T63.setTop (mkF m 58 #[iv p0, iv p1, iv i, iv o, rv (el 2), .val (own_ty el o), .unset] [(.int (0 : Int32))])) t → Steps p.tables e below (s₁.setTop (entryFrame m #[(.int p0), (.int p1)] maxLocals)) t := by
                  intro t kt
                  refine pre74 _ ?_
                  show Steps p.tables e below (T63.setTop (mkF m 50 #[iv p0, iv p1, iv i, iv o, rv (el 2), .val (own_ty el o), .unset] [(.int (2 : Int32)), (.int i)])) _
                  refine XS.icmpYes X63.here hx rfl (pc0 := 50) (pc' := 57) rfl (hb hby at_50) rfl (feq hc50).2 (by decide) (by decide) ?_
                  show Steps p.tables e below (T63.setTop (mkF m 57 #[iv p0, iv p1, iv i, iv o, rv (el 2), .val (own_ty el o), .unset] [])) _
                  refine XS.iconst X63.here hx rfl (hb hby at_57) ?_
                  exact kt
                exact ⟨(0 : Int32), Or.inr (Or.inr (Or.inr (Or.inr (Or.inl ⟨hc29, hc34, hc40, hc45, hc50, rfl⟩)))), pre76⟩
            · have pre77 : ∀ t, Steps p.tables e below (T63.setTop (mkF m 58 #[iv p0, iv p1, iv i, iv o, rv (el 2), .val (own_ty el o), .unset] [(.int (0 : Int32))])) t → Steps p.tables e below (s₁.setTop (entryFrame m #[(.int p0), (.int p1)] maxLocals)) t := by
                intro t kt
                refine pre73 _ ?_
                show Steps p.tables e below (T63.setTop (mkF m 45 #[iv p0, iv p1, iv i, iv o, rv (el 2), .val (own_ty el o), .unset] [(.int (1 : Int32)), (.int o)])) _
                refine XS.icmpYes X63.here hx rfl (pc0 := 45) (pc' := 57) rfl (hb hby at_45) rfl (feq hc45).2 (by decide) (by decide) ?_
                show Steps p.tables e below (T63.setTop (mkF m 57 #[iv p0, iv p1, iv i, iv o, rv (el 2), .val (own_ty el o), .unset] [])) _
                refine XS.iconst X63.here hx rfl (hb hby at_57) ?_
                exact kt
              exact ⟨(0 : Int32), Or.inr (Or.inr (Or.inr (Or.inr (Or.inr (Or.inl ⟨hc29, hc34, hc40, hc45, rfl⟩))))), pre77⟩
          · have pre78 : ∀ t, Steps p.tables e below (T63.setTop (mkF m 58 #[iv p0, iv p1, iv i, iv o, rv (el 2), .val (own_ty el o), .unset] [(.int (1 : Int32))])) t → Steps p.tables e below (s₁.setTop (entryFrame m #[(.int p0), (.int p1)] maxLocals)) t := by
              intro t kt
              refine pre72 _ ?_
              show Steps p.tables e below (T63.setTop (mkF m 40 #[iv p0, iv p1, iv i, iv o, rv (el 2), .val (own_ty el o), .unset] [(.int (8 : Int32)), (.int i)])) _
              refine XS.icmpYes X63.here hx rfl (pc0 := 40) (pc' := 53) rfl (hb hby at_40) rfl (flt hc40).2.2.2 (by decide) (by decide) ?_
              show Steps p.tables e below (T63.setTop (mkF m 53 #[iv p0, iv p1, iv i, iv o, rv (el 2), .val (own_ty el o), .unset] [])) _
              refine XS.iconst X63.here hx rfl (hb hby at_53) ?_
              show Steps p.tables e below (T63.setTop (mkF m 54 #[iv p0, iv p1, iv i, iv o, rv (el 2), .val (own_ty el o), .unset] [(.int (1 : Int32))])) _
              refine XS.goto X63.here hx rfl (pc0 := 54) (pc' := 58) rfl (hb hby at_54) (by decide) (by decide) ?_
              exact kt
            exact ⟨(1 : Int32), Or.inr (Or.inr (Or.inr (Or.inr (Or.inr (Or.inr (Or.inl ⟨hc29, hc34, hc40, rfl⟩)))))), pre78⟩
      · have pre79 : ∀ t, Steps p.tables e below (T63.setTop (mkF m 45 #[iv p0, iv p1, iv i, iv o, rv (el 2), .val (own_ty el o), .unset] [(.int (1 : Int32)), (.int o)])) t → Steps p.tables e below (s₁.setTop (entryFrame m #[(.int p0), (.int p1)] maxLocals)) t := by
          intro t kt
          refine pre65 _ ?_
          show Steps p.tables e below (T63.setTop (mkF m 29 #[iv p0, iv p1, iv i, iv o, rv (el 2), .val (own_ty el o), .unset] [(.int o)])) _
          refine XS.ifYes X63.here hx rfl (pc0 := 29) (pc' := 43) rfl (hb hby at_29) rfl ((if0 _ _).trans (feq hc29).2) (by decide) (by decide) ?_
          show Steps p.tables e below (T63.setTop (mkF m 43 #[iv p0, iv p1, iv i, iv o, rv (el 2), .val (own_ty el o), .unset] [])) _
          refine XS.iloadN X63.here hx rfl (hb hby at_43) rfl ?_
          show Steps p.tables e below (T63.setTop (mkF m 44 #[iv p0, iv p1, iv i, iv o, rv (el 2), .val (own_ty el o), .unset] [(.int o)])) _
          refine XS.iconst X63.here hx rfl (hb hby at_44) ?_
          exact kt
        by_cases hc45 : o = (1 : Int32)
        · have pre80 : ∀ t, Steps p.tables e below (T63.setTop (mkF m 50 #[iv p0, iv p1, iv i, iv o, rv (el 2), .val (own_ty el o), .unset] [(.int (2 : Int32)), (.int i)])) t → Steps p.tables e below (s₁.setTop (entryFrame m #[(.int p0), (.int p1)] maxLocals)) t := by
            intro t kt
            refine pre79 _ ?_
            show Steps p.tables e below (T63.setTop (mkF m 45 #[iv p0, iv p1, iv i, iv o, rv (el 2), .val (own_ty el o), .unset] [(.int (1 : Int32)), (.int o)])) _
            refine XS.icmpNo X63.here hx rfl (hb hby at_45) rfl (teq hc45).2 ?_
            show Steps p.tables e below (T63.setTop (mkF m 48 #[iv p0, iv p1, iv i, iv o, rv (el 2), .val (own_ty el o), .unset] [])) _
            refine XS.iloadN X63.here hx rfl (hb hby at_48) rfl ?_
            show Steps p.tables e below (T63.setTop (mkF m 49 #[iv p0, iv p1, iv i, iv o, rv (el 2), .val (own_ty el o), .unset] [(.int i)])) _
            refine XS.iconst X63.here hx rfl (hb hby at_49) ?_
            exact kt
          by_cases hc50 : i = (2 : Int32)
          · have pre81 : ∀ t, Steps p.tables e below (T63.setTop (mkF m 58 #[iv p0, iv p1, iv i, iv o, rv (el 2), .val (own_ty el o), .unset] [(.int (1 : Int32))])) t → Steps p.tables e below (s₁.setTop (entryFrame m #[(.int p0), (.int p1)] maxLocals)) t := by
              intro t kt
              refine pre80 _ ?_
              show Steps p.tables e below (T63.setTop (mkF m 50 #[iv p0, iv p1, iv i, iv o, rv (el 2), .val (own_ty el o), .unset] [(.int (2 : Int32)), (.int i)])) _
              refine XS.icmpNo X63.here hx rfl (hb hby at_50) rfl (teq hc50).2 ?_
              show Steps p.tables e below (T63.setTop (mkF m 53 #[iv p0, iv p1, iv i, iv o, rv (el 2), .val (own_ty el o), .unset] [])) _
              refine XS.iconst X63.here hx rfl (hb hby at_53) ?_
              show Steps p.tables e below (T63.setTop (mkF m 54 #[iv p0, iv p1, iv i, iv o, rv (el 2), .val (own_ty el o), .unset] [(.int (1 : Int32))])) _
              refine XS.goto X63.here hx rfl (pc0 := 54) (pc' := 58) rfl (hb hby at_54) (by decide) (by decide) ?_
              exact kt
            exact ⟨(1 : Int32), Or.inr (Or.inr (Or.inr (Or.inr (Or.inr (Or.inr (Or.inr (Or.inl ⟨hc29, hc45, hc50, rfl⟩))))))), pre81⟩
          · have pre82 : ∀ t, Steps p.tables e below (T63.setTop (mkF m 58 #[iv p0, iv p1, iv i, iv o, rv (el 2), .val (own_ty el o), .unset] [(.int (0 : Int32))])) t → Steps p.tables e below (s₁.setTop (entryFrame m #[(.int p0), (.int p1)] maxLocals)) t := by
              intro t kt
              refine pre80 _ ?_
              show Steps p.tables e below (T63.setTop (mkF m 50 #[iv p0, iv p1, iv i, iv o, rv (el 2), .val (own_ty el o), .unset] [(.int (2 : Int32)), (.int i)])) _
              refine XS.icmpYes X63.here hx rfl (pc0 := 50) (pc' := 57) rfl (hb hby at_50) rfl (feq hc50).2 (by decide) (by decide) ?_
              show Steps p.tables e below (T63.setTop (mkF m 57 #[iv p0, iv p1, iv i, iv o, rv (el 2), .val (own_ty el o), .unset] [])) _
              refine XS.iconst X63.here hx rfl (hb hby at_57) ?_
              exact kt
            exact ⟨(0 : Int32), Or.inr (Or.inr (Or.inr (Or.inr (Or.inr (Or.inr (Or.inr (Or.inr (Or.inl ⟨hc29, hc45, hc50, rfl⟩)))))))), pre82⟩
        · have pre83 : ∀ t, Steps p.tables e below (T63.setTop (mkF m 58 #[iv p0, iv p1, iv i, iv o, rv (el 2), .val (own_ty el o), .unset] [(.int (0 : Int32))])) t → Steps p.tables e below (s₁.setTop (entryFrame m #[(.int p0), (.int p1)] maxLocals)) t := by
            intro t kt
            refine pre79 _ ?_
            show Steps p.tables e below (T63.setTop (mkF m 45 #[iv p0, iv p1, iv i, iv o, rv (el 2), .val (own_ty el o), .unset] [(.int (1 : Int32)), (.int o)])) _
            refine XS.icmpYes X63.here hx rfl (pc0 := 45) (pc' := 57) rfl (hb hby at_45) rfl (feq hc45).2 (by decide) (by decide) ?_
            show Steps p.tables e below (T63.setTop (mkF m 57 #[iv p0, iv p1, iv i, iv o, rv (el 2), .val (own_ty el o), .unset] [])) _
            refine XS.iconst X63.here hx rfl (hb hby at_57) ?_
            exact kt
          exact ⟨(0 : Int32), Or.inr (Or.inr (Or.inr (Or.inr (Or.inr (Or.inr (Or.inr (Or.inr (Or.inr (⟨hc29, hc45, rfl⟩))))))))), pre83⟩
    have pre86 : ∀ t, Steps p.tables e below (T63.setTop (mkF m 64 #[iv p0, iv p1, iv i, iv o, rv (el 2), .val (own_ty el o), iv exp] [(own_ty el o), (.ref (el 2))])) t → Steps p.tables e below (s₁.setTop (entryFrame m #[(.int p0), (.int p1)] maxLocals)) t := by
      intro t kt
      refine pre85 _ ?_
      show Steps p.tables e below (T63.setTop (mkF m 58 #[iv p0, iv p1, iv i, iv o, rv (el 2), .val (own_ty el o), .unset] [(.int exp)])) _
      refine XS.istore X63.here hx rfl (hb hby at_58) rfl (l' := #[iv p0, iv p1, iv i, iv o, rv (el 2), .val (own_ty el o), iv exp]) rfl ?_
      show Steps p.tables e below (T63.setTop (mkF m 60 #[iv p0, iv p1, iv i, iv o, rv (el 2), .val (own_ty el o), iv exp] [])) _
      refine XS.aload X63.here hx rfl (hb hby at_60) rfl rfl ?_
      show Steps p.tables e below (T63.setTop (mkF m 62 #[iv p0, iv p1, iv i, iv o, rv (el 2), .val (own_ty el o), iv exp] [(.ref (el 2))])) _
      refine XS.aload X63.here hx rfl (hb hby at_62) rfl (own_isref el o (h_o ▸ own_rem p1 11 11 (by decide) (by decide))) ?_
      exact kt
    obtain ⟨cq87, kq87, q87a, q87b, q87c⟩ := isOf hZ hh63 (hE 2 (by decide))
    obtain ⟨_, _, ⟨T87, L87, k87, n87⟩, -, X87, ⟨Lc87, hQ87, l87, y87, z87⟩, st87⟩ := X63.virtualBack hx (y := (⟨"com/example/subject/subject/model/EntityType", "livesIn", "(Lcom/example/subject/subject/model/EntityType;)Z"⟩ : MethodName)) (z := (⟨"com/example/subject/subject/model/EntityType", "livesIn", "(Lcom/example/subject/subject/model/EntityType;)Z"⟩ : MethodName)) hown (mvT hZ (hw _ (List.mem_of_getElem? (i := 10) rfl))) (mvT hZ (hw _ (List.mem_of_getElem? (i := 11) rfl))) (notFace_of_selects (args := #[]) (mvT hZ (hw _ (List.mem_of_getElem? (i := 13) rfl)))) (mvT hZ (hw _ (List.mem_of_getElem? (i := 13) rfl))) (mvT hZ (hw _ (List.mem_of_getElem? (i := 12) rfl))) (by decide) (backOf (W := 0) (rm2c l Z a0 hw [] (el 2) (own_ty el o) (el 1) (el 0) h0 n0 (Nat.le_trans Z0 (Keep.refl h0 []).1) (own_isref el o (h_o ▸ own_rem p1 11 11 (by decide) (by decide))) hC (hB 1 (by decide)) (hA 0 (Or.inl rfl))) hZ (hw _ (List.mem_of_getElem? (i := 14) rfl)) (hw _ (List.mem_of_getElem? (i := 6) rfl)) (by decide) (by decide)) q87a q87c (g := (mkF m 64 #[iv p0, iv p1, iv i, iv o, rv (el 2), .val (own_ty el o), iv exp] [(own_ty el o), (.ref (el 2))])) rfl (by rw [hml]; rfl) (Steps.refl _) (argsL := [(own_ty el o)]) (rest := []) (lenOf pd3 rfl) rfl (by show 2 * 0 + _ ≤ _; exact Nat.le_of_eq rfl) (hb hby at_64) (fun _ _ => ⟨rfl, hh63, (by decide : 0 + 0 ≤ _), (by decide : 0 + 0 ≤ _)⟩)
    dsimp only [Pt.U, Pt.locs, Pt.cells, Pt.slots] at X87 l87 y87 z87 st87 hQ87
    subst l87 y87 z87
    obtain ⟨rfl, N87q, hh87⟩ := hQ87
    have N87 := Fr.app N63 N87q
    have pre88 : ∀ t, Steps p.tables e below (T87.setTop (mkF m 69 #[iv p0, iv p1, iv i, iv o, rv (el 2), .val (own_ty el o), iv exp] [(.int exp), (.int (own_l2 (el 1) (el 0) (own_ty el o)))])) t → Steps p.tables e below (s₁.setTop (entryFrame m #[(.int p0), (.int p1)] maxLocals)) t := by
      intro t kt
      refine pre86 _ ?_
      show Steps p.tables e below (T63.setTop (mkF m 64 #[iv p0, iv p1, iv i, iv o, rv (el 2), .val (own_ty el o), iv exp] [(own_ty el o), (.ref (el 2))])) _
      refine st87.trans ?_
      show Steps p.tables e below (T87.setTop (mkF m 67 #[iv p0, iv p1, iv i, iv o, rv (el 2), .val (own_ty el o), iv exp] [(.int (own_l2 (el 1) (el 0) (own_ty el o)))])) _
      refine XS.iload X87.here hx rfl (hb hby at_67) rfl ?_
      exact kt
    by_cases hc69 : (own_l2 (el 1) (el 0) (own_ty el o)) = exp
    · have pre89 : ∀ t, Steps p.tables e below (T87.setTop (mkF m 77 #[iv p0, iv p1, iv i, iv o, rv (el 2), .val (own_ty el o), iv exp] [(.int (1 : Int32))])) t → Steps p.tables e below (s₁.setTop (entryFrame m #[(.int p0), (.int p1)] maxLocals)) t := by
        intro t kt
        refine pre88 _ ?_
        show Steps p.tables e below (T87.setTop (mkF m 69 #[iv p0, iv p1, iv i, iv o, rv (el 2), .val (own_ty el o), iv exp] [(.int exp), (.int (own_l2 (el 1) (el 0) (own_ty el o)))])) _
        refine XS.icmpNo X87.here hx rfl (hb hby at_69) rfl (teq hc69).2 ?_
        show Steps p.tables e below (T87.setTop (mkF m 72 #[iv p0, iv p1, iv i, iv o, rv (el 2), .val (own_ty el o), iv exp] [])) _
        refine XS.iconst X87.here hx rfl (hb hby at_72) ?_
        show Steps p.tables e below (T87.setTop (mkF m 73 #[iv p0, iv p1, iv i, iv o, rv (el 2), .val (own_ty el o), iv exp] [(.int (1 : Int32))])) _
        refine XS.goto X87.here hx rfl (pc0 := 73) (pc' := 77) rfl (hb hby at_73) (by decide) (by decide) ?_
        exact kt
      obtain ⟨fs, hr, hrun, hended, hW, hsame⟩ := X87.leave (v := some (.int (1 : Int32))) (fun h => by rw [Bd.returns] at h; cases h)
      refine ⟨_, _, pre89 _ ?_, hrun, hended, _, _, rfl, ?_, ⟨_, rfl⟩, hW, hsame.mono (by decide) (by decide)⟩
      · show Steps p.tables e below (T87.setTop (mkF m 77 #[iv p0, iv p1, iv i, iv o, rv (el 2), .val (own_ty el o), iv exp] [(.int (1 : Int32))])) _
        exact retN X87 hx (t := .boolean) Bd.returns (by simp) (hb hby at_77) hr
      · show Q0 Z p0 p1 el h0 n0 _ T87.heap _
        rw [hh87]
        exact ⟨rfl, N87⟩
    · have pre90 : ∀ t, Steps p.tables e below (T87.setTop (mkF m 77 #[iv p0, iv p1, iv i, iv o, rv (el 2), .val (own_ty el o), iv exp] [(.int (0 : Int32))])) t → Steps p.tables e below (s₁.setTop (entryFrame m #[(.int p0), (.int p1)] maxLocals)) t := by
        intro t kt
        refine pre88 _ ?_
        show Steps p.tables e below (T87.setTop (mkF m 69 #[iv p0, iv p1, iv i, iv o, rv (el 2), .val (own_ty el o), iv exp] [(.int exp), (.int (own_l2 (el 1) (el 0) (own_ty el o)))])) _
        refine XS.icmpYes X87.here hx rfl (pc0 := 69) (pc' := 76) rfl (hb hby at_69) rfl (feq hc69).2 (by decide) (by decide) ?_
        show Steps p.tables e below (T87.setTop (mkF m 76 #[iv p0, iv p1, iv i, iv o, rv (el 2), .val (own_ty el o), iv exp] [])) _
        refine XS.iconst X87.here hx rfl (hb hby at_76) ?_
        exact kt
      exfalso
      refine hc69 ?_
      rw [own_exp i o exp (h_i ▸ own_rem p0 10 10 (by decide) (by decide)) (h_o ▸ own_rem p1 11 11 (by decide) (by decide)) hexp]
      have q0 := own_eq el hinj o (h_o ▸ own_rem p1 11 11 (by decide) (by decide)) 0 (by decide)
      have q1 := own_eq el hinj o (h_o ▸ own_rem p1 11 11 (by decide) (by decide)) 1 (by decide)
      unfold own_l2
      by_cases c1 : o.toInt = 1
      · rw [if_pos (q1.mpr c1), if_pos]; omega
      · rw [if_neg (mt q1.mp c1)]
        by_cases c : o.toInt = 0
        · rw [if_pos (q0.mpr c), if_pos]; omega
        · rw [if_neg (mt q0.mp c), if_neg]; omega
set_option maxRecDepth 65536 in
set_option maxHeartbeats 40000000 in
theorem comes_1 {Post : Tables → Env → Array Value → State → Outcome → State → Prop} (hpost : ∀ tb e args s v u, (limb_1_1.after args s (.returned v) u = true ∧ limb_1_2.after args s (.returned v) u = true ∧ True) → FrameEnd s (.returned v) u (Jvm.fieldLocs frame_1_writes args s ++ Jvm.arrayLocs frame_1_arrays args s ++ Jvm.staticLocs frame_1_statics s) 0 0 → Post tb e args s (.returned v) u) :
    ArmFor flags0 classFile x code maxLocals ret World_1 tables_1 room_1 Calls_1 rest_1 Pre_1 Post := by
  intro l hfl _ _ p e ha hc hk s m args below hf hA hF happ hP
  obtain ⟨hcalls, hrest, hpre⟩ := hP
  obtain ⟨-, -, -, hnamed, -, -, -, hat⟩ := (Spec.applies_iff hf).mp happ
  obtain ⟨hg, hn⟩ := and_e (Cond.before_iff.mp (show (Jvm.Cond.and given_1 narrow_1).before args s = true from hpre))
  obtain ⟨gg1, gg2⟩ := and_e hg
  obtain ⟨gg3, gg4⟩ := and_e gg2
  obtain ⟨w0, w1, rfl⟩ : ∃ w0 w1 : Value, args = #[w0, w1] := by
    have hs : args.size = 2 := by simpa [Cond.value, given_1] using gg1
    obtain ⟨L⟩ := args
    match L, hs with
    | [w0, w1], _ => exact ⟨w0, w1, rfl⟩
  have hw := fun d (hd : d ∈ tables_1) => atoms_spec (ws := Jvm.Cond.code x code maxLocals ret :: tables_1) hat d (List.mem_cons_of_mem _ hd)
  have hfit : Fit s := fun {y c} hc i hi => by
    obtain ⟨ha, rfl⟩ := Array.getElem?_eq_some_iff.mp hc
    have q := List.all_eq_true.mp ((Array.all_eq_true_iff_forall_mem.mp hF) _ (Array.getElem_mem ha)) i (List.mem_range.mpr hi)
    simpa [Array.getElem?_eq_getElem hi] using q
  obtain ⟨i0, ei0⟩ := is_v gg3
  obtain rfl : w0 = (.int i0) := Option.some.inj ei0
  obtain ⟨i1, ei1⟩ := is_v gg4
  obtain rfl : w1 = (.int i1) := Option.some.inj ei1
  obtain ⟨gg5, gg6⟩ := and_e hn
  obtain ⟨gg7, gg8⟩ := and_e gg6
  obtain ⟨gg9, gg10⟩ := and_e gg8
  obtain ⟨gg11, gg12⟩ := and_e gg10
  obtain ⟨gg13, gg14⟩ := and_e gg12
  obtain ⟨gg15, gg16⟩ := and_e gg14
  obtain ⟨gg17, gg18⟩ := and_e gg16
  obtain ⟨gg19, gg20⟩ := and_e gg18
  obtain ⟨gg21, gg22⟩ := and_e gg20
  obtain ⟨gg23, gg24⟩ := and_e gg22
  obtain ⟨gg25, gg26⟩ := and_e gg24
  obtain ⟨gg27, gg28⟩ := and_e gg26
  obtain ⟨gg29, gg30⟩ := and_e gg28
  obtain ⟨gg31, gg32⟩ := and_e gg30
  obtain ⟨gg33, gg34⟩ := and_e gg32
  obtain ⟨gg35, gg36⟩ := and_e gg34
  obtain ⟨gg37, gg38⟩ := and_e gg36
  obtain ⟨gg39, gg40⟩ := and_e gg38
  obtain ⟨gg41, gg42⟩ := and_e gg40
  obtain ⟨gg43, gg44⟩ := and_e gg42
  obtain ⟨gg45, gg46⟩ := and_e gg44
  obtain ⟨gg47, gg48⟩ := and_e gg46
  obtain ⟨gg49, gg50⟩ := and_e gg48
  obtain ⟨gg51, gg52⟩ := and_e gg50
  obtain ⟨gg53, gg54⟩ := and_e gg52
  obtain ⟨gg55, gg56⟩ := and_e gg54
  obtain ⟨gg57, gg58⟩ := and_e gg56
  obtain ⟨gg59, gg60⟩ := and_e gg58
  obtain ⟨gg61, gg62⟩ := and_e gg60
  obtain ⟨s_NAMESPACE, ev_NAMESPACE⟩ := exa_v gg5
  have St_NAMESPACE := Sta.start ev_NAMESPACE (Or.inr ⟨(hw _ (List.mem_of_getElem? (i := 6) rfl)), (hw _ (List.mem_of_getElem? (i := 7) rfl))⟩)
  have Ex_NAMESPACE := Exa.start ev_NAMESPACE gg5
  obtain ⟨s_DATASET, ev_DATASET⟩ := exa_v gg7
  have St_DATASET := Sta.start ev_DATASET (Or.inr ⟨(hw _ (List.mem_of_getElem? (i := 6) rfl)), (hw _ (List.mem_of_getElem? (i := 9) rfl))⟩)
  have Ex_DATASET := Exa.start ev_DATASET gg7
  obtain ⟨s_STREAM, ev_STREAM⟩ := exa_v gg11
  have St_STREAM := Sta.start ev_STREAM (Or.inr ⟨(hw _ (List.mem_of_getElem? (i := 6) rfl)), (hw _ (List.mem_of_getElem? (i := 18) rfl))⟩)
  have Ex_STREAM := Exa.start ev_STREAM gg11
  obtain ⟨s_APPLICATION, ev_APPLICATION⟩ := exa_v gg13
  have St_APPLICATION := Sta.start ev_APPLICATION (Or.inr ⟨(hw _ (List.mem_of_getElem? (i := 6) rfl)), (hw _ (List.mem_of_getElem? (i := 20) rfl))⟩)
  have Ex_APPLICATION := Exa.start ev_APPLICATION gg13
  obtain ⟨s_SECUREKEY, ev_SECUREKEY⟩ := exa_v gg21
  have St_SECUREKEY := Sta.start ev_SECUREKEY (Or.inr ⟨(hw _ (List.mem_of_getElem? (i := 6) rfl)), (hw _ (List.mem_of_getElem? (i := 22) rfl))⟩)
  have Ex_SECUREKEY := Exa.start ev_SECUREKEY gg21
  obtain ⟨s_DATASET_TYPE, ev_DATASET_TYPE⟩ := exa_v gg25
  have St_DATASET_TYPE := Sta.start ev_DATASET_TYPE (Or.inr ⟨(hw _ (List.mem_of_getElem? (i := 6) rfl)), (hw _ (List.mem_of_getElem? (i := 24) rfl))⟩)
  have Ex_DATASET_TYPE := Exa.start ev_DATASET_TYPE gg25
  obtain ⟨s_KERBEROSPRINCIPAL, ev_KERBEROSPRINCIPAL⟩ := exa_v gg29
  have St_KERBEROSPRINCIPAL := Sta.start ev_KERBEROSPRINCIPAL (Or.inr ⟨(hw _ (List.mem_of_getElem? (i := 6) rfl)), (hw _ (List.mem_of_getElem? (i := 26) rfl))⟩)
  have Ex_KERBEROSPRINCIPAL := Exa.start ev_KERBEROSPRINCIPAL gg29
  obtain ⟨s_PROGRAM, ev_PROGRAM⟩ := exa_v gg31
  have St_PROGRAM := Sta.start ev_PROGRAM (Or.inr ⟨(hw _ (List.mem_of_getElem? (i := 6) rfl)), (hw _ (List.mem_of_getElem? (i := 28) rfl))⟩)
  have Ex_PROGRAM := Exa.start ev_PROGRAM gg31
  obtain ⟨s_ARTIFACT, ev_ARTIFACT⟩ := exa_v gg35
  have St_ARTIFACT := Sta.start ev_ARTIFACT (Or.inr ⟨(hw _ (List.mem_of_getElem? (i := 6) rfl)), (hw _ (List.mem_of_getElem? (i := 30) rfl))⟩)
  have Ex_ARTIFACT := Exa.start ev_ARTIFACT gg35
  obtain ⟨s_DATASET_MODULE, ev_DATASET_MODULE⟩ := exa_v gg51
  have St_DATASET_MODULE := Sta.start ev_DATASET_MODULE (Or.inr ⟨(hw _ (List.mem_of_getElem? (i := 6) rfl)), (hw _ (List.mem_of_getElem? (i := 32) rfl))⟩)
  have Ex_DATASET_MODULE := Exa.start ev_DATASET_MODULE gg51
  have Fc_NAMESPACE := Fld.start (own_fn ev_NAMESPACE gg9)
  have Fc_STREAM := Fld.start (own_fr ev_STREAM ev_NAMESPACE gg15)
  have Fo_NAMESPACE := Fld.start (own_fi ev_NAMESPACE gg17)
  have Fo_APPLICATION := Fld.start (own_fi ev_APPLICATION gg19)
  have Fc_SECUREKEY := Fld.start (own_fr ev_SECUREKEY ev_NAMESPACE gg23)
  have Fc_DATASET_TYPE := Fld.start (own_fr ev_DATASET_TYPE ev_NAMESPACE gg27)
  have Fc_KERBEROSPRINCIPAL := Fld.start (own_fn ev_KERBEROSPRINCIPAL gg33)
  have Fc_PROGRAM := Fld.start (own_fr ev_PROGRAM ev_APPLICATION gg37)
  have Fo_ARTIFACT := Fld.start (own_fi ev_ARTIFACT gg39)
  have Fc_APPLICATION := Fld.start (own_fr ev_APPLICATION ev_NAMESPACE gg41)
  have Fc_DATASET := Fld.start (own_fr ev_DATASET ev_NAMESPACE gg43)
  have Fo_DATASET_TYPE := Fld.start (own_fi ev_DATASET_TYPE gg45)
  have Fc_ARTIFACT := Fld.start (own_fr ev_ARTIFACT ev_NAMESPACE gg47)
  have Fo_SECUREKEY := Fld.start (own_fi ev_SECUREKEY gg49)
  have Fc_DATASET_MODULE := Fld.start (own_fr ev_DATASET_MODULE ev_NAMESPACE gg53)
  have Fo_PROGRAM := Fld.start (own_fi ev_PROGRAM gg55)
  have Fo_DATASET_MODULE := Fld.start (own_fi ev_DATASET_MODULE gg57)
  have Fo_STREAM := Fld.start (own_fi ev_STREAM gg59)
  have Fo_DATASET := Fld.start (own_fi ev_DATASET gg61)
  have Fo_KERBEROSPRINCIPAL := Fld.start (own_fi ev_KERBEROSPRINCIPAL gg62)
  have hE : ∀ i, i < 10 → Exa s s.heap (([s_NAMESPACE, s_APPLICATION, s_PROGRAM, s_DATASET, s_STREAM, s_ARTIFACT, s_DATASET_TYPE, s_DATASET_MODULE, s_SECUREKEY, s_KERBEROSPRINCIPAL] : List Addr).getD i 0) "com/example/subject/subject/model/EntityType" := fun i hi => match i, hi with
    | 0, _ => Ex_NAMESPACE
    | 1, _ => Ex_APPLICATION
    | 2, _ => Ex_PROGRAM
    | 3, _ => Ex_DATASET
    | 4, _ => Ex_STREAM
    | 5, _ => Ex_ARTIFACT
    | 6, _ => Ex_DATASET_TYPE
    | 7, _ => Ex_DATASET_MODULE
    | 8, _ => Ex_SECUREKEY
    | 9, _ => Ex_KERBEROSPRINCIPAL
    | k + 10, h => absurd h (by omega)
  have hF : ∀ i, i < 10 → Fld s s.heap (([s_NAMESPACE, s_APPLICATION, s_PROGRAM, s_DATASET, s_STREAM, s_ARTIFACT, s_DATASET_TYPE, s_DATASET_MODULE, s_SECUREKEY, s_KERBEROSPRINCIPAL] : List Addr).getD i 0) "java/lang/Enum" "ordinal" "I" (.int (Int32.ofNat i)) := fun i hi => match i, hi with
    | 0, _ => Fo_NAMESPACE
    | 1, _ => Fo_APPLICATION
    | 2, _ => Fo_PROGRAM
    | 3, _ => Fo_DATASET
    | 4, _ => Fo_STREAM
    | 5, _ => Fo_ARTIFACT
    | 6, _ => Fo_DATASET_TYPE
    | 7, _ => Fo_DATASET_MODULE
    | 8, _ => Fo_SECUREKEY
    | 9, _ => Fo_KERBEROSPRINCIPAL
    | k + 10, h => absurd h (by omega)
  have hinj : ∀ j k, j < 10 → k < 10 → ([s_NAMESPACE, s_APPLICATION, s_PROGRAM, s_DATASET, s_STREAM, s_ARTIFACT, s_DATASET_TYPE, s_DATASET_MODULE, s_SECUREKEY, s_KERBEROSPRINCIPAL] : List Addr).getD j 0 = ([s_NAMESPACE, s_APPLICATION, s_PROGRAM, s_DATASET, s_STREAM, s_ARTIFACT, s_DATASET_TYPE, s_DATASET_MODULE, s_SECUREKEY, s_KERBEROSPRINCIPAL] : List Addr).getD k 0 → j = k := fun j k hj hk q => by
    refine Classical.byContradiction fun hne => Fld.ne (hF j hj) (hF k hk) (fun e => hne ?_) q
    have e1 := congrArg Int32.toInt (Value.int.inj e)
    rw [Int32.toInt_ofNat_small (by omega), Int32.toInt_ofNat_small (by omega)] at e1
    omega
  have hA : ∀ j, j = 0 ∨ j = 9 → Fld s s.heap (([s_NAMESPACE, s_APPLICATION, s_PROGRAM, s_DATASET, s_STREAM, s_ARTIFACT, s_DATASET_TYPE, s_DATASET_MODULE, s_SECUREKEY, s_KERBEROSPRINCIPAL] : List Addr).getD j 0) "com/example/subject/subject/model/EntityType" "container" "Lcom/example/subject/subject/model/EntityType;" .null := fun j hj => by rcases hj with rfl | rfl <;> assumption
  have hB : ∀ j, 1 ≤ j ∧ j ≤ 8 ∧ j ≠ 2 → Fld s s.heap (([s_NAMESPACE, s_APPLICATION, s_PROGRAM, s_DATASET, s_STREAM, s_ARTIFACT, s_DATASET_TYPE, s_DATASET_MODULE, s_SECUREKEY, s_KERBEROSPRINCIPAL] : List Addr).getD j 0) "com/example/subject/subject/model/EntityType" "container" "Lcom/example/subject/subject/model/EntityType;" (.ref s_NAMESPACE) := fun j hj => match j, hj with
    | 1, _ => Fc_APPLICATION
    | 3, _ => Fc_DATASET
    | 4, _ => Fc_STREAM
    | 5, _ => Fc_ARTIFACT
    | 6, _ => Fc_DATASET_TYPE
    | 7, _ => Fc_DATASET_MODULE
    | 8, _ => Fc_SECUREKEY
    | 0, h => absurd h (by omega)
    | 2, h => absurd h (by omega)
    | k + 9, h => absurd h (by omega)
  obtain ⟨n, o, h1, h2, h3, _, L, rfl, ⟨rfl, N⟩, hq⟩ := rm0 l s _ hw tables_1 i0 i1 (fun i => ([s_NAMESPACE, s_APPLICATION, s_PROGRAM, s_DATASET, s_STREAM, s_ARTIFACT, s_DATASET_TYPE, s_DATASET_MODULE, s_SECUREKEY, s_KERBEROSPRINCIPAL] : List Addr).getD i 0) s.heap s.heap.size (Nat.le_refl _) (Old.start s) St_NAMESPACE St_APPLICATION St_PROGRAM St_DATASET St_STREAM St_ARTIFACT St_DATASET_TYPE St_DATASET_MODULE St_SECUREKEY St_KERBEROSPRINCIPAL hE hA hB Fc_PROGRAM hinj p e ha hc hk s m _ below hf ((Spec.applies_iff_loose hf).mp happ).1 ⟨rfl, State.Warmed39.refl s, rfl⟩ trivial
  refine ⟨n, _, h1, h2, h3, hpost _ _ _ _ _ _ ⟨Cond.after_iff.mpr rfl, Cond.after_iff.mpr (eq_i res_at (Term.int_eval (1)) rfl), trivial⟩ ⟨hq.1, hq.2.1, (hq.2.2.sift fun y hy => Or.inr (N y hy)).mono (by decide) (by decide)⟩⟩
theorem main_1_1 : Claimed_1_1 := comes_1 fun _ _ _ _ _ _ h hF => ⟨h.1, hF⟩
theorem main_1_2 : Claimed_1_2 := comes_1 fun _ _ _ _ _ _ h hF => ⟨h.2.1, hF⟩
end Jvm.Pilot.@@N@@
namespace Jvm.Pilot.@@N@@
open Jvm Jvm.ClassFile Sem Op Lib Jvm.Free Jvm.Stand Jvm.Pilot.@@N@@.Jvm.D
/-! MADE BY PROGRAM (witnessworld.py) out of the Statement's table words and the real class files: 12 classes; the members and pool entries that the words name. The judged class is class 1, her method 2. -/
namespace start1
open Jvm.ClassFile
def u (s : String) : CpInfo := .utf8 (stringToUtf16 s)
/-- a pool by its gaps: so many unusable entries, then the entry; so many at the end -/
def gap : Nat → List CpInfo → List CpInfo
  | 0, r => r
  | n + 1, r => .unusable :: gap n r
def poolList (es : List (Nat × CpInfo)) (last : Nat) : List CpInfo := es.foldr (fun e r => gap e.1 (e.2 :: r)) (gap last [])
def pool (es : List (Nat × CpInfo)) (last : Nat) : Array CpInfo := ⟨poolList es last⟩
def fileOf (pool : Array CpInfo) (this : Nat) (attrs : Array Attribute := #[]) (ms : Array MethodInfo := #[]) (fl : Nat := 33) (sup : Nat := 0) (ifs : Array Nat := #[]) (fds : Array FieldInfo := #[]) : ClassFile where
  minorVersion := 0
  majorVersion := 65
  constantPool := pool
  accessFlags := fl
  thisClass := this
  superClass := sup
  interfaces := ifs
  fields := fds
  methods := ms
  attributes := attrs
def plain (name : String) (sup : Option ClassId) : Class where
  name := name
  kind := .ordinary
  loader := none
  accessFlags := 33
  super := sup
  interfaces := #[]
  cf := none
  fields := #[]
  methods := #[]
  instanceTypes := #[]
  staticTypes := #[]
  resolved := #[]
  callSites := []
  init := .initialized
  statics := none
  mirror := none

def pool0 : Array CpInfo := pool [(5, u "<init>"), (0, u "()V"), (1, .class_ 10), (1, u "java/lang/Object")] 113

def k0m0 : Method := { name := "<init>", desc := "()V", sig := { parameters := [], returnType := none }, accessFlags := 1, code := none }
/-- java/lang/Object -/
def k0 : Class := { plain "java/lang/Object" none with
  accessFlags := 33
  interfaces := #[]
  cf := some (fileOf pool0 8 #[] #[{ accessFlags := 1, nameIndex := 5, descriptorIndex := 6, attributes := #[] }] 33 0 #[] #[])
  fields := #[]
  methods := #[k0m0]
  instanceTypes := #[]
  staticTypes := #[]
  resolved := Array.replicate 124 none
  statics := none }

def pool1 : Array CpInfo := pool [(2, .class_ 4), (1, u "java/lang/Object"), (0, u "<init>"), (0, u "()V"), (0, .fieldref 8 9), (0, .class_ 10), (0, .nameAndType 11 12), (0, u "com/example/subject/subject/model/EntityType"), (0, u "NAMESPACE"), (0, u "Lcom/example/subject/subject/model/EntityType;"), (0, .fieldref 8 14), (0, .nameAndType 15 12), (0, u "APPLICATION"), (0, .fieldref 8 17), (0, .nameAndType 18 12), (0, u "PROGRAM"), (0, .fieldref 8 20), (0, .nameAndType 21 12), (0, u "DATASET"), (0, .fieldref 8 23), (0, .nameAndType 24 12), (0, u "STREAM"), (0, .fieldref 8 26), (0, .nameAndType 27 12), (0, u "ARTIFACT"), (0, .fieldref 8 29), (0, .nameAndType 30 12), (0, u "DATASET_TYPE"), (0, .fieldref 8 32), (0, .nameAndType 33 12), (0, u "DATASET_MODULE"), (0, .fieldref 8 35), (0, .nameAndType 36 12), (0, u "SECUREKEY"), (0, .fieldref 8 38), (0, .nameAndType 39 12), (0, u "KERBEROSPRINCIPAL"), (0, .integer 2147483647), (0, .methodref 42 43), (0, .class_ 44), (0, .nameAndType 45 46), (0, u "com/example/subject/subject/model/EntityTypeLivesInPinLaw"), (0, u "type"), (0, u "(I)Lcom/example/subject/subject/model/EntityType;"), (0, .methodref 8 48), (0, .nameAndType 49 50), (0, u "livesIn"), (0, u "(Lcom/example/subject/subject/model/EntityType;)Z"), (3, u "law"), (0, u "(II)Z")] 2

def k1m0 : Method := { name := "<init>", desc := "()V", sig := { parameters := [], returnType := none }, accessFlags := 1, code := none }
def k1c1 : Code := { maxStack := 2, maxLocals := 1, code := method_2_code, exceptionTable := #[], attributes := #[] }
def k1m1 : Method := { name := "type", desc := "(I)Lcom/example/subject/subject/model/EntityType;", sig := { parameters := [.int], returnType := some (.object "com/example/subject/subject/model/EntityType") }, accessFlags := 10, code := some k1c1 }
def k1c2 : Code := { maxStack := 2, maxLocals := 7, code := code, exceptionTable := #[], attributes := #[] }
def k1m2 : Method := { name := "law", desc := "(II)Z", sig := { parameters := [.int, .int], returnType := some .boolean }, accessFlags := 9, code := some k1c2 }
/-- com/example/subject/subject/model/EntityTypeLivesInPinLaw -/
def k1 : Class := { plain "com/example/subject/subject/model/EntityTypeLivesInPinLaw" (some 0) with
  accessFlags := 49
  interfaces := #[]
  cf := some (fileOf pool1 42 #[] #[{ accessFlags := 1, nameIndex := 5, descriptorIndex := 6, attributes := #[] }, { accessFlags := 10, nameIndex := 45, descriptorIndex := 46, attributes := #[] }, { accessFlags := 9, nameIndex := 54, descriptorIndex := 55, attributes := #[] }] 49 2 #[] #[])
  fields := #[]
  methods := #[k1m0, k1m1, k1m2]
  instanceTypes := #[]
  staticTypes := #[]
  resolved := Array.replicate 58 none
  statics := none }

def pool2 : Array CpInfo := pool [(1, .class_ 2), (0, u "java/lang/constant/Constable"), (0, .class_ 4), (0, u "java/lang/Object")] 6

/-- java/lang/constant/Constable -/
def k2 : Class := { plain "java/lang/constant/Constable" (some 0) with
  accessFlags := 1537
  interfaces := #[]
  cf := some (fileOf pool2 1 #[] #[] 1537 3 #[] #[])
  fields := #[]
  methods := #[]
  instanceTypes := #[]
  staticTypes := #[]
  resolved := Array.replicate 11 none
  statics := none }

def pool3 : Array CpInfo := pool [(1, .class_ 2), (0, u "java/lang/Comparable"), (0, .class_ 4), (0, u "java/lang/Object")] 7

/-- java/lang/Comparable -/
def k3 : Class := { plain "java/lang/Comparable" (some 0) with
  accessFlags := 1537
  interfaces := #[]
  cf := some (fileOf pool3 1 #[] #[] 1537 3 #[] #[])
  fields := #[]
  methods := #[]
  instanceTypes := #[]
  staticTypes := #[]
  resolved := Array.replicate 12 none
  statics := none }

def pool4 : Array CpInfo := pool [(1, .class_ 2), (0, u "java/io/Serializable"), (0, .class_ 4), (0, u "java/lang/Object")] 2

/-- java/io/Serializable -/
def k4 : Class := { plain "java/io/Serializable" (some 0) with
  accessFlags := 1537
  interfaces := #[]
  cf := some (fileOf pool4 1 #[] #[] 1537 3 #[] #[])
  fields := #[]
  methods := #[]
  instanceTypes := #[]
  staticTypes := #[]
  resolved := Array.replicate 7 none
  statics := none }

def pool5 : Array CpInfo := pool [(2, .class_ 4), (1, u "java/lang/Enum"), (0, u "name"), (0, u "Ljava/lang/String;"), (2, u "ordinal"), (0, u "I"), (1, .class_ 14), (1, u "java/lang/Object"), (4, u "hash"), (86, .class_ 108), (1, u "java/lang/Enum$EnumDesc"), (2, .class_ 112), (0, u "java/lang/constant/Constable"), (0, .class_ 114), (0, u "java/lang/Comparable"), (0, .class_ 116), (0, u "java/io/Serializable")] 87

/-- java/lang/Enum -/
def k5 : Class := { plain "java/lang/Enum" (some 0) with
  accessFlags := 1057
  interfaces := #[2, 3, 4]
  cf := some (fileOf pool5 2 #[.nestMembers #[106]] #[] 1057 12 #[111, 113, 115] #[{ accessFlags := 18, nameIndex := 5, descriptorIndex := 6, attributes := #[] }, { accessFlags := 18, nameIndex := 9, descriptorIndex := 10, attributes := #[] }, { accessFlags := 2, nameIndex := 19, descriptorIndex := 10, attributes := #[] }])
  fields := #[{ name := "name", type := (.object "java/lang/String"), accessFlags := 18, slot := 0, constantValue := 0 }, { name := "ordinal", type := .int, accessFlags := 18, slot := 1, constantValue := 0 }, { name := "hash", type := .int, accessFlags := 2, slot := 2, constantValue := 0 }]
  methods := #[]
  instanceTypes := #[(.object "java/lang/String"), .int, .int]
  staticTypes := #[]
  resolved := Array.replicate 204 none
  statics := none }

def pool6 : Array CpInfo := pool [(1, .class_ 2), (0, u "com/example/subject/subject/model/EntityType"), (2, u "NAMESPACE"), (0, u "Lcom/example/subject/subject/model/EntityType;"), (2, u "APPLICATION"), (2, u "PROGRAM"), (2, u "DATASET"), (2, u "STREAM"), (2, u "ARTIFACT"), (2, u "DATASET_TYPE"), (2, u "DATASET_MODULE"), (2, u "SECUREKEY"), (2, u "KERBEROSPRINCIPAL"), (2, u "$VALUES"), (0, u "[Lcom/example/subject/subject/model/EntityType;"), (6, .class_ 46), (1, u "java/lang/Enum"), (8, u "word"), (0, u "Ljava/lang/String;"), (2, u "grammar"), (0, u "Lcom/example/subject/subject/model/IdGrammar;"), (0, .fieldref 1 62), (0, .nameAndType 63 6), (0, u "container"), (28, u "statesAfterOuterIds"), (0, u "Ljava/util/Map;"), (44, u "WORDS"), (140, u "MAX_ID_LENGTH"), (0, u "I"), (10, u "livesIn"), (0, u "(Lcom/example/subject/subject/model/EntityType;)Z")] 60

def k6c0 : Code := { maxStack := 2, maxLocals := 3, code := prog_31_method_5_code, exceptionTable := #[], attributes := #[] }
def k6m0 : Method := { name := "livesIn", desc := "(Lcom/example/subject/subject/model/EntityType;)Z", sig := { parameters := [(.object "com/example/subject/subject/model/EntityType")], returnType := some .boolean }, accessFlags := 0, code := some k6c0 }
/-- com/example/subject/subject/model/EntityType -/
def k6 : Class := { plain "com/example/subject/subject/model/EntityType" (some 5) with
  accessFlags := 16433
  interfaces := #[]
  cf := some (fileOf pool6 1 #[] #[{ accessFlags := 0, nameIndex := 291, descriptorIndex := 292, attributes := #[] }] 16433 44 #[] #[{ accessFlags := 16409, nameIndex := 5, descriptorIndex := 6, attributes := #[] }, { accessFlags := 16409, nameIndex := 9, descriptorIndex := 6, attributes := #[] }, { accessFlags := 16409, nameIndex := 12, descriptorIndex := 6, attributes := #[] }, { accessFlags := 16409, nameIndex := 15, descriptorIndex := 6, attributes := #[] }, { accessFlags := 16409, nameIndex := 18, descriptorIndex := 6, attributes := #[] }, { accessFlags := 16409, nameIndex := 21, descriptorIndex := 6, attributes := #[] }, { accessFlags := 16409, nameIndex := 24, descriptorIndex := 6, attributes := #[] }, { accessFlags := 16409, nameIndex := 27, descriptorIndex := 6, attributes := #[] }, { accessFlags := 16409, nameIndex := 30, descriptorIndex := 6, attributes := #[] }, { accessFlags := 16409, nameIndex := 33, descriptorIndex := 6, attributes := #[] }, { accessFlags := 25, nameIndex := 279, descriptorIndex := 280, attributes := #[] }, { accessFlags := 26, nameIndex := 138, descriptorIndex := 56, attributes := #[] }, { accessFlags := 18, nameIndex := 55, descriptorIndex := 56, attributes := #[] }, { accessFlags := 18, nameIndex := 59, descriptorIndex := 60, attributes := #[] }, { accessFlags := 18, nameIndex := 63, descriptorIndex := 6, attributes := #[] }, { accessFlags := 18, nameIndex := 92, descriptorIndex := 93, attributes := #[] }, { accessFlags := 4122, nameIndex := 36, descriptorIndex := 37, attributes := #[] }])
  fields := #[{ name := "NAMESPACE", type := (.object "com/example/subject/subject/model/EntityType"), accessFlags := 16409, slot := 0, constantValue := 0 }, { name := "APPLICATION", type := (.object "com/example/subject/subject/model/EntityType"), accessFlags := 16409, slot := 1, constantValue := 0 }, { name := "PROGRAM", type := (.object "com/example/subject/subject/model/EntityType"), accessFlags := 16409, slot := 2, constantValue := 0 }, { name := "DATASET", type := (.object "com/example/subject/subject/model/EntityType"), accessFlags := 16409, slot := 3, constantValue := 0 }, { name := "STREAM", type := (.object "com/example/subject/subject/model/EntityType"), accessFlags := 16409, slot := 4, constantValue := 0 }, { name := "ARTIFACT", type := (.object "com/example/subject/subject/model/EntityType"), accessFlags := 16409, slot := 5, constantValue := 0 }, { name := "DATASET_TYPE", type := (.object "com/example/subject/subject/model/EntityType"), accessFlags := 16409, slot := 6, constantValue := 0 }, { name := "DATASET_MODULE", type := (.object "com/example/subject/subject/model/EntityType"), accessFlags := 16409, slot := 7, constantValue := 0 }, { name := "SECUREKEY", type := (.object "com/example/subject/subject/model/EntityType"), accessFlags := 16409, slot := 8, constantValue := 0 }, { name := "KERBEROSPRINCIPAL", type := (.object "com/example/subject/subject/model/EntityType"), accessFlags := 16409, slot := 9, constantValue := 0 }, { name := "MAX_ID_LENGTH", type := .int, accessFlags := 25, slot := 10, constantValue := 0 }, { name := "WORDS", type := (.object "java/lang/String"), accessFlags := 26, slot := 11, constantValue := 0 }, { name := "word", type := (.object "java/lang/String"), accessFlags := 18, slot := 3, constantValue := 0 }, { name := "grammar", type := (.object "com/example/subject/subject/model/IdGrammar"), accessFlags := 18, slot := 4, constantValue := 0 }, { name := "container", type := (.object "com/example/subject/subject/model/EntityType"), accessFlags := 18, slot := 5, constantValue := 0 }, { name := "statesAfterOuterIds", type := (.object "java/util/Map"), accessFlags := 18, slot := 6, constantValue := 0 }, { name := "$VALUES", type := (.array (.object "com/example/subject/subject/model/EntityType")), accessFlags := 4122, slot := 12, constantValue := 0 }]
  methods := #[k6m0]
  instanceTypes := #[(.object "java/lang/String"), .int, .int, (.object "java/lang/String"), (.object "com/example/subject/subject/model/IdGrammar"), (.object "com/example/subject/subject/model/EntityType"), (.object "java/util/Map")]
  staticTypes := #[(.object "com/example/subject/subject/model/EntityType"), (.object "com/example/subject/subject/model/EntityType"), (.object "com/example/subject/subject/model/EntityType"), (.object "com/example/subject/subject/model/EntityType"), (.object "com/example/subject/subject/model/EntityType"), (.object "com/example/subject/subject/model/EntityType"), (.object "com/example/subject/subject/model/EntityType"), (.object "com/example/subject/subject/model/EntityType"), (.object "com/example/subject/subject/model/EntityType"), (.object "com/example/subject/subject/model/EntityType"), .int, (.object "java/lang/String"), (.array (.object "com/example/subject/subject/model/EntityType"))]
  resolved := Array.replicate 353 none
  statics := some 0 }

def pool7 : Array CpInfo := pool [(1, u "java/lang/Cloneable"), (0, .class_ 1), (0, u "java/lang/Object"), (0, .class_ 3)] 3

/-- java/lang/Cloneable -/
def k7 : Class := { plain "java/lang/Cloneable" (some 0) with
  accessFlags := 1537
  interfaces := #[]
  cf := some (fileOf pool7 2 #[] #[] 1537 4 #[] #[])
  fields := #[]
  methods := #[]
  instanceTypes := #[]
  staticTypes := #[]
  resolved := Array.replicate 8 none
  statics := none }

/-- the primitive byte -/
def k8 : Class := { plain "byte" none with kind := .primitive 'B', accessFlags := 0x411 }
/-- [B -/
def k9 : Class := { plain "[B" (some 0) with kind := .array 8 .byte, interfaces := #[7, 4], accessFlags := 1041 }

/-- the primitive int -/
def k10 : Class := { plain "int" none with kind := .primitive 'I', accessFlags := 0x411 }
/-- [I -/
def k11 : Class := { plain "[I" (some 0) with kind := .array 10 .int, interfaces := #[7, 4], accessFlags := 1041 }

def heap : Heap := #[{ cls := 6, slots := #[.ref 1, .ref 2, .ref 3, .ref 4, .ref 5, .ref 6, .ref 7, .ref 8, .ref 9, .ref 10, .int 0, .null, .null], vm := .statics 6 },
  { cls := 6, slots := #[.null, .int 0, .int 0, .null, .null, .null, .null], vm := .none },
  { cls := 6, slots := #[.null, .int 1, .int 0, .null, .null, .ref 1, .null], vm := .none },
  { cls := 6, slots := #[.null, .int 2, .int 0, .null, .null, .ref 2, .null], vm := .none },
  { cls := 6, slots := #[.null, .int 3, .int 0, .null, .null, .ref 1, .null], vm := .none },
  { cls := 6, slots := #[.null, .int 4, .int 0, .null, .null, .ref 1, .null], vm := .none },
  { cls := 6, slots := #[.null, .int 5, .int 0, .null, .null, .ref 1, .null], vm := .none },
  { cls := 6, slots := #[.null, .int 6, .int 0, .null, .null, .ref 1, .null], vm := .none },
  { cls := 6, slots := #[.null, .int 7, .int 0, .null, .null, .ref 1, .null], vm := .none },
  { cls := 6, slots := #[.null, .int 8, .int 0, .null, .null, .ref 1, .null], vm := .none },
  { cls := 6, slots := #[.null, .int 9, .int 0, .null, .null, .null, .null], vm := .none }]
def classes : Array Class := #[k0, k1, k2, k3, k4, k5, k6, k7, k8, k9, k10, k11]
def interned : List (Array UInt16 × Addr) := []
def slotsUsed : Nat := 83
def theMethod : MethodId := ⟨1, 2⟩
def args0 : Array Value := #[.int 5, .int 6]
def aboutOver (below : List Frame) : State where
  vm := { classes := classes, interned := interned.toArray }
  heap := heap
  slotsUsed := slotsUsed
  threads := #[{ frames := .invoking theMethod args0 :: below }]
def below0 : List Frame := [.native { method := ⟨0, 0⟩, args := #[] }]
def about1 : State := aboutOver below0
def p0 : Program := .bare "" "" ""
def e0 : Env := launch0.env 0 0 0
theorem w_frames : about1.frames = Frame.invoking theMethod args0 :: below0 := rfl
set_option maxRecDepth 65536 in
theorem w_args : argsFit about1.vm theMethod args0 = true := by decide +kernel
set_option maxRecDepth 65536 in
theorem w_heap : heapFits about1 = true := by decide +kernel
set_option maxRecDepth 65536 in
theorem w_runnable : about1.curStatus? = some .runnable := by decide +kernel
set_option maxRecDepth 65536 in
theorem w_alone : about1.alone = true := by decide +kernel
set_option maxRecDepth 65536 in
theorem w_named : about1.methodNamed? x = some theMethod := by decide +kernel
set_option maxRecDepth 65536 in
theorem w_hears : about1.hears theMethod below0 = true := by decide +kernel
set_option maxRecDepth 65536 in
theorem w_ripe : about1.ripe theMethod args0 below0 = true := by decide +kernel
theorem w_running : about1.status = .running := rfl
set_option maxRecDepth 65536 in
theorem w_room : about1.hasRoom e0.platform room_1 = true :=
  launch0.hasRoom_least _ room_1 (by decide +kernel) (by decide +kernel) (by decide +kernel) (by decide +kernel) (by decide +kernel) (by decide +kernel)
theorem allAtoms_all (ts : List Jvm.Cond) (a : Array Jvm.Value) (st : Jvm.State) : (allAtoms ts).before a st = ts.all (fun c => c.before a st) := by
  induction ts with
  | nil => rfl
  | cons c t ih =>
    show (Jvm.Cond.and c (allAtoms t)).before a st = _
    rw [Jvm.Cond.before_and, ih, List.all_cons]
def words1 : List Jvm.Cond := Jvm.Cond.code x code maxLocals ret :: tables_1
/-- a 'code' word, met by the world's own term for the bytes: nothing is compared byte by byte -/
theorem code_word {y : MethodName} {bytes : ByteArray} {mx : Nat} {rt : Option FieldType} {a : Array Value} {s : State} {m : MethodId} {meth : Method} {c : Code} (h1 : s.methodNamed? y = some m) (h2 : s.vm.method? m = some meth) (h3 : meth.code = some c) (h4 : c.code = bytes)
    (h5 : (c.maxLocals == mx && c.exceptionTable.isEmpty && decide (c.maxStack ≤ mostOperands) && decide (meth.sig.returnType = rt) && !meth.locks && decide (parseMethodDescriptor y.desc = some meth.sig)) = true) : (Jvm.Cond.code y bytes mx rt).before a s = true := by
  simp only [Bool.and_eq_true, beq_iff_eq, Bool.not_eq_true', decide_eq_true_eq] at h5
  obtain ⟨⟨⟨⟨⟨g1, g2⟩, g3⟩, g4⟩, g5⟩, g6⟩ := h5
  simp [Cond.before, Cond.holds, Cond.value, h1, h2, h3, h4, g1, g2, g3, g4, g5, g6]
def isCode : Jvm.Cond → Bool
  | .code _ _ _ _ => true
  | _ => false
theorem all_split {L : List Jvm.Cond} {P : Jvm.Cond → Bool} (h1 : L.all (fun c => isCode c || P c) = true) (h2 : ∀ c ∈ L.filter isCode, P c = true) : L.all P = true := by
  refine List.all_eq_true.mpr fun c hc => ?_
  have h := List.all_eq_true.mp h1 c hc
  rcases Bool.eq_false_or_eq_true (isCode c) with hi | hi
  · exact h2 c (List.mem_filter.mpr ⟨hc, hi⟩)
  · simpa [hi] using h
set_option maxRecDepth 65536 in
theorem w_c0 : (Jvm.Cond.code x code maxLocals ret).before args0 about1 = true := code_word (m := ⟨1, 2⟩) (meth := k1m2) (c := k1c2) (by decide +kernel) rfl rfl rfl (by decide +kernel)
set_option maxRecDepth 65536 in
theorem w_c1 : (Jvm.Cond.code ({ cls := "com/example/subject/subject/model/EntityTypeLivesInPinLaw", name := "type", desc := "(I)Lcom/example/subject/subject/model/EntityType;" } : Jvm.MethodName) method_2_code (1 : Nat) (Option.some (Jvm.ClassFile.FieldType.object "com/example/subject/subject/model/EntityType"))).before args0 about1 = true := code_word (m := ⟨1, 1⟩) (meth := k1m1) (c := k1c1) (by decide +kernel) rfl rfl rfl (by decide +kernel)
set_option maxRecDepth 65536 in
theorem w_c2 : (Jvm.Cond.code ({ cls := "com/example/subject/subject/model/EntityType", name := "livesIn", desc := "(Lcom/example/subject/subject/model/EntityType;)Z" } : Jvm.MethodName) prog_31_method_5_code (3 : Nat) (Option.some Jvm.ClassFile.FieldType.boolean)).before args0 about1 = true := code_word (m := ⟨6, 0⟩) (meth := k6m0) (c := k6c0) (by decide +kernel) rfl rfl rfl (by decide +kernel)
def codes1 : List Jvm.Cond := [Jvm.Cond.code x code maxLocals ret, Jvm.Cond.code ({ cls := "com/example/subject/subject/model/EntityTypeLivesInPinLaw", name := "type", desc := "(I)Lcom/example/subject/subject/model/EntityType;" } : Jvm.MethodName) method_2_code (1 : Nat) (Option.some (Jvm.ClassFile.FieldType.object "com/example/subject/subject/model/EntityType")), Jvm.Cond.code ({ cls := "com/example/subject/subject/model/EntityType", name := "livesIn", desc := "(Lcom/example/subject/subject/model/EntityType;)Z" } : Jvm.MethodName) prog_31_method_5_code (3 : Nat) (Option.some Jvm.ClassFile.FieldType.boolean)]
set_option maxRecDepth 65536 in
theorem codes_eq : words1.filter isCode = codes1 := rfl
theorem w_codes : ∀ c ∈ words1.filter isCode, c.before args0 about1 = true := by
  rw [codes_eq]
  intro c hc
  simp only [codes1, List.mem_cons, List.not_mem_nil, or_false] at hc
  rcases hc with rfl | rfl | rfl
  · exact w_c0
  · exact w_c1
  · exact w_c2
set_option maxRecDepth 65536 in
theorem w_t1 : (words1.take 24).all (fun c => isCode c || c.before args0 about1) = true := by decide +kernel
set_option maxRecDepth 65536 in
theorem w_t2 : (words1.drop 24).all (fun c => isCode c || c.before args0 about1) = true := by decide +kernel
theorem w_tables : (allAtoms (Jvm.Cond.code x code maxLocals ret :: tables_1)).before args0 about1 = true := by
  rw [allAtoms_all]
  show words1.all (fun c => c.before args0 about1) = true
  refine all_split ?_ w_codes
  rw [← List.take_append_drop 24 words1, List.all_append, w_t1, w_t2]
  rfl
set_option maxRecDepth 65536 in
theorem w_case : (Jvm.Cond.and given_1 narrow_1).before args0 about1 = true := by decide +kernel
theorem w_applies : (headSpec (Jvm.Cond.code x code maxLocals ret :: tables_1) room_1).applies x e0.platform about1 = true :=
  (Spec.applies_iff w_frames).mpr ⟨w_running, w_runnable, w_alone, w_named, w_hears, w_ripe, w_room, w_tables⟩
theorem atStart : AtStart classFile x code maxLocals ret World_1 tables_1 room_1 Calls_1 rest_1 Pre_1 launch0 p0 e0 about1 theMethod args0 below0 :=
  ⟨lists_1, trivial, launch0.admits_env _ _ _, launch0.least_env, fairChoices_fair.cas, fairChoices_fair.clock, w_frames, w_args, w_heap, w_applies, trivial, trivial, w_case⟩
end start1
theorem witness_1 : WitnessClaimed_1 := ⟨start1.p0, start1.e0, start1.about1, start1.theMethod, start1.args0, start1.below0, start1.atStart⟩
end Jvm.Pilot.@@N@@
