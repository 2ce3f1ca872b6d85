import JvmDerived
import JvmDerived.Pilot.@@N@@Statement
import JvmDerived.Pilot.@@N@@Code
set_option linter.unusedVariables false
set_option linter.unusedSimpArgs false
namespace Jvm.RoadKit
open Sem ClassFile Op Lib Jvm.Stand Jvm.Free Jvm.LawKit
section New
variable {p : Program} {l : Launch} {e : Env} {R : Room} {s : State} {m : MethodId} {args : Array Value} {below : List Frame} {meth : Method} {c : Code} {T : State} {locs : List Loc} {cells slots : Nat}
theorem retI (X : Stand p l e R s m args below meth c T locs cells slots) (hx : p.tables.exec = Jvm.exec) {pc : Nat} {Ls : Array Slot} {z : Int32} {rest : List Value} (hret : meth.sig.returnType = some .int) (hd : decode c.code pc = .ok (.ireturn, 1)) {fs : List Frame}
    (hl : ∀ (f : JFrame) (acts : List Action), f.method = m → f.locked = none → f.entered = [] → (doReturn e (T.setTop f) acts (some (.int z))).1 = T.setFrames fs) : Steps p.tables e below (T.setTop (mkF m pc Ls (.int z :: rest))) (T.setFrames fs) := by
  have hm' : T.vm.method? m = some meth := X.method'
  have hn : narrow .int (.int z) = .int z := rfl
  show Steps p.tables e below (T.setTop { method := m, pc := pc, locals := Ls, stack := _ :: rest, locked := none }) _
  jvm_step X.here [X.here.top, hx, hd, hm', hret, hn]
  first | (intro acts; rw [hl _ acts rfl rfl rfl]) | rw [hl _ _ rfl rfl rfl]
  exact Steps.refl _
end New
end Jvm.RoadKit

namespace Jvm.Pilot.@@N@@
open Jvm Jvm.ClassFile Sem Op Lib Jvm.Free Jvm.Stand Jvm.LawKit Jvm.RoadKit Bundle Jvm.Pilot.@@N@@.Jvm.D
theorem own_fi {t : Term} {a : Addr} {C n d : String} {k : Int32} {args : Array Value} {s : State} (ev : t.eval args s none [] s = some (.ref a)) (h : (Jvm.Cond.eq (.field t C n d) (.int k)).value args s none s [] = some true) : s.fieldOf? a C n d = some (.int k) := by
  obtain ⟨x, y, hx, hy, k1, k2⟩ := cmp_v (Or.inl h)
  have hy' : y = .int k := (Option.some.inj (hy.symm.trans (Term.int_eval k)))
  subst hy'
  cases x with
  | int z =>
    have e : (Jvm.Cond.eq (.field t C n d) (.int k)).value args s none s [] = some (decide (z = k)) := by simp [Cond.value, hx, hy]
    have := gotT e h
    subst this
    rw [← fld_at ev]; exact hx
  | _ => simp [Kin] at k1 k2
theorem own_fn {t : Term} {a : Addr} {C n d : String} {args : Array Value} {s : State} (ev : t.eval args s none [] s = some (.ref a)) (h : (Jvm.Cond.eq (.field t C n d) .null).value args s none s [] = some true) : s.fieldOf? a C n d = some .null := by
  have := null_v h
  rw [fld_at ev] at this; exact this
theorem own_fr {t u : Term} {a b : Addr} {C n d : String} {args : Array Value} {s : State} (ev : t.eval args s none [] s = some (.ref a)) (ev2 : u.eval args s none [] s = some (.ref b)) (h : (Jvm.Cond.eq (.field t C n d) u).value args s none s [] = some true) : s.fieldOf? a C n d = some (.ref b) := by
  obtain ⟨x, y, hx, hy, k1, k2⟩ := cmp_v (Or.inl h)
  have hy' : y = .ref b := (Option.some.inj (hy.symm.trans ev2))
  subst hy'
  have hr : x.isRef = true := by cases x <;> simp [Kin, Value.isRef] at k1 k2 ⊢
  have e := eq_R (args := args) (first := s) (o := none) (s := s) (idx := []) hx hy hr rfl
  have := gotT e h
  subst this
  rw [← fld_at ev]; exact hx
theorem own_nb (x : Int32) : nar .byte (x.toInt8.toInt32) = x.toInt8.toInt32 := by
  show (x.toInt8.toInt32).toInt8.toInt32 = x.toInt8.toInt32
  simp
theorem own_fb {x : Int32} (h : nar .byte x = x) : fits .byte (.int x) = true := by
  have q := fits_nar_byte x
  have e : x.toInt8.toInt32 = x := h
  rwa [e] at q
theorem own_nc (x : Int32) : nar .char (x.toUInt32.toUInt16.toUInt32.toInt32) = x.toUInt32.toUInt16.toUInt32.toInt32 := by
  show (x.toUInt32.toUInt16.toUInt32.toInt32).toUInt32.toUInt16.toUInt32.toInt32 = x.toUInt32.toUInt16.toUInt32.toInt32
  apply Int32.toInt_inj.mp
  have h1 := c_i2c x
  have h2 := c_i2c (x.toUInt32.toUInt16.toUInt32.toInt32)
  omega
theorem own_fc {x : Int32} (h : nar .char x = x) : fits .char (.int x) = true := by
  have q := fits_nar_char x
  rwa [h] at q
theorem pn0 : plainName "java/lang/StringLatin1" = true := by first | (simp [plainName, overriddenIn]; done) | decide +kernel
theorem d12_0 : decode jdk_43_method_3_code 0 = .ok (.iload_n 0, 1) := by decide +kernel
theorem d12_1 : decode jdk_43_method_3_code 1 = .ok (.sipush 255, 3) := by decide +kernel
theorem d12_4 : decode jdk_43_method_3_code 4 = .ok (.if_icmp .gt 7, 3) := by decide +kernel
theorem d12_7 : decode jdk_43_method_3_code 7 = .ok (.iconst 1, 1) := by decide +kernel
theorem d12_8 : decode jdk_43_method_3_code 8 = .ok (.goto 4, 3) := by decide +kernel
theorem d12_12 : decode jdk_43_method_3_code 12 = .ok (.ireturn, 1) := by decide +kernel
theorem ef_12 (m : MethodId) (x0 : Int32) : entryFrame m #[(.int x0)] 1 = mkF m 0 #[.val (.int x0)] [] := by first | (simp [entryFrame, mkF, argsToLocals, Value.category]; done) | rfl
def Q12 (Z : State) (p0 : Int32) (h0 : Heap) (n0 : Nat) (v : Option Value) (h : Heap) (L : List Loc) : Prop := v = some (.int 1) ∧ Fr n0 L ∧ h = h0
set_option maxRecDepth 65536 in
set_option maxHeartbeats 40000000 in
theorem rm12 (l : Launch) (Z : State) (a0 : Array Value) (hw : ∀ d ∈ tables_1, d.before a0 Z = true) (ws : List Jvm.Cond) (p0 : Int32) (h0 : Heap) (n0 : Nat) (Z0 : n0 ≤ h0.size) (hc : ¬ ((255 : Int32) < p0)) :
    MetFree l (⟨"java/lang/StringLatin1", "canEncode", "(C)Z"⟩ : MethodName) (head1 (Jvm.Cond.code (⟨"java/lang/StringLatin1", "canEncode", "(C)Z"⟩ : MethodName) jdk_43_method_3_code 1 (some .boolean) :: ws) ({ frames := 0, cells := 0, slots := 0, locals := 0 } : Room)) (fun a U => a = #[(.int p0)] ∧ Z.Warmed39 U.vm ∧ U.heap = h0) (fun _ _ _ _ _ => True) (fun _ U o U' => ∃ v L, o = .returned v ∧ Q12 Z p0 h0 n0 v U'.heap L ∧ FrameEnd U o U' L ({ frames := 0, cells := 0, slots := 0, locals := 0 } : Room).cells ({ frames := 0, cells := 0, slots := 0, locals := 0 } : Room).slots) := by
  refine MetFree.of_bodySF (plainFor_of_name pn0) hisR ?_
  intro p e s m args below meth c s₁ Bd hml0 hP hK
  obtain ⟨rfl, hZ, hh⟩ := hP
  have hx := Bd.exec
  have hby := Bd.bytes
  have hml : c.maxLocals = 1 := hml0
  have hown : s.vm.findClass "java/lang/StringLatin1" = some m.cls := findClass_of_methodNamed Bd.named
  have hnm := (name_of_methodNamed Bd.named Bd.method).1
  have X0 : Stand p l e ({ frames := 0, cells := 0, slots := 0, locals := 0 } : Room) s m #[(.int p0)] below meth c s₁ [] 0 0 := Stand.of_body Bd
  have e0 : s₁.heap = h0 := by rw [← hh, Bd.state]; rfl
  have N0 := Fr.nil n0
  have pre0 : ∀ t, Steps p.tables e below (s₁.setTop (mkF m 0 #[iv p0] [])) t → Steps p.tables e below (s₁.setTop (entryFrame m #[(.int p0)] 1)) t := fun t k => castTop (ef_12 m p0) k
  have pre2 : ∀ t, Steps p.tables e below (s₁.setTop (mkF m 4 #[iv p0] [(.int (255 : Int32)), (.int p0)])) t → Steps p.tables e below (s₁.setTop (entryFrame m #[(.int p0)] 1)) t := by
    intro t kt
    refine pre0 _ ?_
    show Steps p.tables e below (s₁.setTop (mkF m 0 #[iv p0] [])) _
    refine XS.iloadN X0.here hx rfl (hb hby d12_0) rfl ?_
    show Steps p.tables e below (s₁.setTop (mkF m 1 #[iv p0] [(.int p0)])) _
    refine XS.sipush X0.here hx rfl (hb hby d12_1) ?_
    exact kt
  have hc4_1 : ¬ ((255 : Int32) < p0) := hc
  have pre3 : ∀ t, Steps p.tables e below (s₁.setTop (mkF m 12 #[iv p0] [(.int (1 : Int32))])) t → Steps p.tables e below (s₁.setTop (entryFrame m #[(.int p0)] 1)) t := by
    intro t kt
    refine pre2 _ ?_
    show Steps p.tables e below (s₁.setTop (mkF m 4 #[iv p0] [(.int (255 : Int32)), (.int p0)])) _
    refine XS.icmpNo X0.here hx rfl (hb hby d12_4) rfl (flt hc4_1).2.2.1 ?_
    show Steps p.tables e below (s₁.setTop (mkF m 7 #[iv p0] [])) _
    refine XS.iconst X0.here hx rfl (hb hby d12_7) ?_
    show Steps p.tables e below (s₁.setTop (mkF m 8 #[iv p0] [(.int (1 : Int32))])) _
    refine XS.goto X0.here hx rfl (pc0 := 8) (pc' := 12) rfl (hb hby d12_8) (by decide) (by decide) ?_
    exact kt
  obtain ⟨fs, hr, hrun, hended, hW, hsame⟩ := X0.leave (v := some (.int (1 : Int32))) (fun h => by rw [Bd.returns] at h; cases h)
  refine ⟨_, _, pre3 _ ?_, hrun, hended, _, _, rfl, ?_, ⟨_, rfl⟩, hW, hsame.mono (by decide) (by decide)⟩
  · show Steps p.tables e below (s₁.setTop (mkF m 12 #[iv p0] [(.int (1 : Int32))])) _
    exact retN X0 hx (t := .boolean) Bd.returns (by simp) (hb hby d12_12) hr
  · show Q12 Z p0 h0 n0 _ s₁.heap _
    rw [e0]
    exact ⟨rfl, N0, rfl⟩
theorem d13_0 : decode jdk_43_method_46_code 0 = .ok (.iconst 1, 1) := by decide +kernel
theorem d13_1 : decode jdk_43_method_46_code 1 = .ok (.newarray .byte, 2) := by decide +kernel
theorem d13_3 : decode jdk_43_method_46_code 3 = .ok (.dup, 1) := by decide +kernel
theorem d13_4 : decode jdk_43_method_46_code 4 = .ok (.iconst 0, 1) := by decide +kernel
theorem d13_5 : decode jdk_43_method_46_code 5 = .ok (.iload_n 0, 1) := by decide +kernel
theorem d13_6 : decode jdk_43_method_46_code 6 = .ok (.i2b, 1) := by decide +kernel
theorem d13_7 : decode jdk_43_method_46_code 7 = .ok (.bastore, 1) := by decide +kernel
theorem d13_8 : decode jdk_43_method_46_code 8 = .ok (.areturn, 1) := by decide +kernel
theorem ef_13 (m : MethodId) (x0 : Int32) : entryFrame m #[(.int x0)] 1 = mkF m 0 #[.val (.int x0)] [] := by first | (simp [entryFrame, mkF, argsToLocals, Value.category]; done) | rfl
def Q13 (Z : State) (p0 : Int32) (h0 : Heap) (n0 : Nat) (v : Option Value) (h : Heap) (L : List Loc) : Prop := ∃ y k, v = some (.ref y) ∧ Fr n0 L ∧ Keep h0 h [] ∧ h0.size ≤ y ∧ Arv Z h y k .byte (1 : Int32) [(.int (p0.toInt8.toInt32))] (.int (0 : Int32))
set_option maxRecDepth 65536 in
set_option maxHeartbeats 40000000 in
theorem rm13 (l : Launch) (Z : State) (a0 : Array Value) (hw : ∀ d ∈ tables_1, d.before a0 Z = true) (ws : List Jvm.Cond) (p0 : Int32) (h0 : Heap) (n0 : Nat) (Z0 : n0 ≤ h0.size) :
    MetFree l (⟨"java/lang/StringLatin1", "toBytes", "(C)[B"⟩ : MethodName) (head1 (Jvm.Cond.code (⟨"java/lang/StringLatin1", "toBytes", "(C)[B"⟩ : MethodName) jdk_43_method_46_code 1 (some (.array .byte)) :: ws) ({ frames := 0, cells := 1, slots := 1, locals := 0 } : Room)) (fun a U => a = #[(.int p0)] ∧ Z.Warmed39 U.vm ∧ U.heap = h0) (fun _ _ _ _ _ => True) (fun _ U o U' => ∃ v L, o = .returned v ∧ Q13 Z p0 h0 n0 v U'.heap L ∧ FrameEnd U o U' L ({ frames := 0, cells := 1, slots := 1, locals := 0 } : Room).cells ({ frames := 0, cells := 1, slots := 1, locals := 0 } : Room).slots) := by
  refine MetFree.of_bodySF (plainFor_of_name pn0) hisR ?_
  intro p e s m args below meth c s₁ Bd hml0 hP hK
  obtain ⟨rfl, hZ, hh⟩ := hP
  have hx := Bd.exec
  have hby := Bd.bytes
  have hml : c.maxLocals = 1 := hml0
  have hown : s.vm.findClass "java/lang/StringLatin1" = some m.cls := findClass_of_methodNamed Bd.named
  have hnm := (name_of_methodNamed Bd.named Bd.method).1
  have X0 : Stand p l e ({ frames := 0, cells := 1, slots := 1, locals := 0 } : Room) s m #[(.int p0)] below meth c s₁ [] 0 0 := Stand.of_body Bd
  have e0 : s₁.heap = h0 := by rw [← hh, Bd.state]; rfl
  have N0 := Fr.nil n0
  have pre0 : ∀ t, Steps p.tables e below (s₁.setTop (mkF m 0 #[iv p0] [])) t → Steps p.tables e below (s₁.setTop (entryFrame m #[(.int p0)] 1)) t := fun t k => castTop (ef_13 m p0) k
  have pre1 : ∀ t, Steps p.tables e below (s₁.setTop (mkF m 1 #[iv p0] [(.int (1 : Int32))])) t → Steps p.tables e below (s₁.setTop (entryFrame m #[(.int p0)] 1)) t := by
    intro t kt
    refine pre0 _ ?_
    show Steps p.tables e below (s₁.setTop (mkF m 0 #[iv p0] [])) _
    refine XS.iconst X0.here hx rfl (hb hby d13_0) ?_
    exact kt
  obtain ⟨T2, h2, k2, X2, e2, E2, A2, Ex2, st2⟩ := newPE X0 hx hZ (hw _ (List.mem_of_getElem? (i := 23) rfl)) e0 (g := (mkF m 1 #[iv p0] [(.int (1 : Int32))])) rfl (hb hby d13_1) rfl (by decide) (cap := 1) (by decide) (by decide) (by decide) (by decide) (ad := "[B") rfl
  obtain ⟨b2, g2⟩ : ∃ z, z = h0.size := ⟨_, rfl⟩
  rw [← g2] at A2 Ex2 st2
  have g_b2 : n0 ≤ b2 := Nat.le_trans (Nat.le_trans Z0 (Keep.refl h0 []).1) (Nat.le_of_eq g2.symm)
  have sz_b2 : h0.size ≤ b2 := Nat.le_trans (Keep.refl h0 []).1 (Nat.le_of_eq g2.symm)
  have V_b2 : Arv Z h2 b2 k2 .byte (1 : Int32) [(.int (0 : Int32))] (.int (0 : Int32)) := (Arv.new A2 (by decide)).pad (pad_rep [] (.int (0 : Int32)) 1)
  have K2 : Keep h0 h2 [] := (Keep.refl h0 []).ext E2
  have pre3 : ∀ t, Steps p.tables e below (T2.setTop (mkF m 7 #[iv p0] [(.int (p0.toInt8.toInt32)), (.int (0 : Int32)), (.ref b2), (.ref b2)])) t → Steps p.tables e below (s₁.setTop (entryFrame m #[(.int p0)] 1)) t := by
    intro t kt
    refine pre1 _ ?_
    show Steps p.tables e below (s₁.setTop (mkF m 1 #[iv p0] [(.int (1 : Int32))])) _
    refine st2 _ ?_
    show Steps p.tables e below (T2.setTop (mkF m 3 #[iv p0] [(.ref b2)])) _
    refine XS.dup X2.here hx rfl (hb hby d13_3) rfl rfl ?_
    show Steps p.tables e below (T2.setTop (mkF m 4 #[iv p0] [(.ref b2), (.ref b2)])) _
    refine XS.iconst X2.here hx rfl (hb hby d13_4) ?_
    show Steps p.tables e below (T2.setTop (mkF m 5 #[iv p0] [(.int (0 : Int32)), (.ref b2), (.ref b2)])) _
    refine XS.iloadN X2.here hx rfl (hb hby d13_5) rfl ?_
    show Steps p.tables e below (T2.setTop (mkF m 6 #[iv p0] [(.int p0), (.int (0 : Int32)), (.ref b2), (.ref b2)])) _
    refine XS.i2b X2.here hx rfl (hb hby d13_6) rfl ?_
    exact kt
  obtain ⟨cl4, Ar4, q4, S4, M4, H4, G4⟩ := id V_b2
  have hin4 : ¬ ((0 : Int32) < 0 ∨ cl4.slots.size ≤ ((0 : Int32)).toNatClampNeg) := inb_of S4 ⟨by decide, by decide⟩
  obtain ⟨T4, h4, X4, e4, W4, st4⟩ := stB X2 hx hZ e2 Ar4 (j := (0 : Int32)) hin4 (g := (mkF m 7 #[iv p0] [(.int (p0.toInt8.toInt32)), (.int (0 : Int32)), (.ref b2), (.ref b2)])) rfl rfl (hb hby d13_7)
  have nn4 : nar .byte (p0.toInt8.toInt32) = (p0.toInt8.toInt32) := (own_nb _)
  rw [nn4] at W4
  have V4 : Arv Z h4 b2 k2 .byte (1 : Int32) [(.int (p0.toInt8.toInt32))] (.int (0 : Int32)) := Arv.set Ar4 q4 S4 M4 H4 G4 (own_fb nn4) W4 0 rfl (Nat.le_of_ble_eq_true rfl)
  have K4 : Keep h0 h4 [] := K2.wr W4 (Or.inr sz_b2)
  have N4 := Fr.snoc X4 N0 g_b2
  have pre5 : ∀ t, Steps p.tables e below (T4.setTop (mkF m 8 #[iv p0] [(.ref b2)])) t → Steps p.tables e below (s₁.setTop (entryFrame m #[(.int p0)] 1)) t := by
    intro t kt
    refine pre3 _ ?_
    show Steps p.tables e below (T2.setTop (mkF m 7 #[iv p0] [(.int (p0.toInt8.toInt32)), (.int (0 : Int32)), (.ref b2), (.ref b2)])) _
    refine st4 _ ?_
    exact kt
  obtain ⟨fs, hr, hrun, hended, hW, hsame⟩ := X4.leave (v := some (.ref b2)) (fun h => by rw [Bd.returns] at h; cases h)
  refine ⟨_, _, pre5 _ ?_, hrun, hended, _, _, rfl, ?_, ⟨_, rfl⟩, hW, hsame.mono (by decide) (by decide)⟩
  · show Steps p.tables e below (T4.setTop (mkF m 8 #[iv p0] [(.ref b2)])) _
    jvm_step X4.here [X4.here.top, hx, (hb hby d13_8), X4.method', Bd.returns, Value.isRef, FieldType.isReference]
    first | (intro acts; rw [hr _ acts rfl rfl rfl]) | rw [hr _ _ rfl rfl rfl]
    exact Steps.refl _
  · show Q13 Z p0 h0 n0 _ T4.heap _
    rw [e4]
    exact ⟨b2, k2, rfl, N4, K4, sz_b2, V4⟩
theorem pn1 : plainName "java/lang/String" = true := by first | (simp [plainName, overriddenIn]; done) | decide +kernel
theorem d14_0 : decode jdk_42_method_151_code 0 = .ok (.aload_n 0, 1) := by decide +kernel
theorem d14_1 : decode jdk_42_method_151_code 1 = .ok (.invokespecial 1, 3) := by decide +kernel
theorem d14_4 : decode jdk_42_method_151_code 4 = .ok (.aload_n 0, 1) := by decide +kernel
theorem d14_5 : decode jdk_42_method_151_code 5 = .ok (.aload_n 1, 1) := by decide +kernel
theorem d14_6 : decode jdk_42_method_151_code 6 = .ok (.putfield 9, 3) := by decide +kernel
theorem d14_9 : decode jdk_42_method_151_code 9 = .ok (.aload_n 0, 1) := by decide +kernel
theorem d14_10 : decode jdk_42_method_151_code 10 = .ok (.iload_n 2, 1) := by decide +kernel
theorem d14_11 : decode jdk_42_method_151_code 11 = .ok (.putfield 15, 3) := by decide +kernel
theorem d14_14 : decode jdk_42_method_151_code 14 = .ok (.return_, 1) := by decide +kernel
theorem ef_14 (m : MethodId) (x0 : Addr) (x1 : Addr) (x2 : Int32) : entryFrame m #[(.ref x0), (.ref x1), (.int x2)] 3 = mkF m 0 #[.val (.ref x0), .val (.ref x1), .val (.int x2)] [] := by first | (simp [entryFrame, mkF, argsToLocals, Value.category]; done) | rfl
def Q14 (Z : State) (r0 : Addr) (r1 : Addr) (h0 : Heap) (n0 : Nat) (v : Option Value) (h : Heap) (L : List Loc) : Prop := v = none ∧ Fr n0 L ∧ Keep h0 h [r0] ∧ Fld Z h r0 "java/lang/String" "value" "[B" (.ref r1) ∧ Fld Z h r0 "java/lang/String" "coder" "B" (.int (0 : Int32))
set_option maxRecDepth 65536 in
set_option maxHeartbeats 40000000 in
theorem rm14 (l : Launch) (Z : State) (a0 : Array Value) (hw : ∀ d ∈ tables_1, d.before a0 Z = true) (ws : List Jvm.Cond) (r0 : Addr) (r1 : Addr) (h0 : Heap) (n0 : Nat) (Z0 : n0 ≤ h0.size) (F_value_r0 : Fld Z h0 r0 "java/lang/String" "value" "[B" .null) (F_coder_r0 : Fld Z h0 r0 "java/lang/String" "coder" "B" (.int (0 : Int32))) (E_r0 : Exa Z h0 r0 "java/lang/String") (g_r0 : n0 ≤ r0) :
    MetFree l (⟨"java/lang/String", "<init>", "([BB)V"⟩ : MethodName) (head1 (Jvm.Cond.code (⟨"java/lang/String", "<init>", "([BB)V"⟩ : MethodName) jdk_42_method_151_code 3 none :: ws) ({ frames := 1, cells := 0, slots := 0, locals := 12 } : Room)) (fun a U => a = #[(.ref r0), (.ref r1), (.int (0 : Int32))] ∧ Z.Warmed39 U.vm ∧ U.heap = h0) (fun _ _ _ _ _ => True) (fun _ U o U' => ∃ v L, o = .returned v ∧ Q14 Z r0 r1 h0 n0 v U'.heap L ∧ FrameEnd U o U' L ({ frames := 1, cells := 0, slots := 0, locals := 12 } : Room).cells ({ frames := 1, cells := 0, slots := 0, locals := 12 } : Room).slots) := by
  refine MetFree.of_bodySF (plainFor_of_name pn1) hisR ?_
  intro p e s m args below meth c s₁ Bd hml0 hP hK
  obtain ⟨rfl, hZ, hh⟩ := hP
  have hx := Bd.exec
  have hby := Bd.bytes
  have hml : c.maxLocals = 3 := hml0
  have hown : s.vm.findClass "java/lang/String" = some m.cls := findClass_of_methodNamed Bd.named
  have hnm := (name_of_methodNamed Bd.named Bd.method).1
  have X0 : Stand p l e ({ frames := 1, cells := 0, slots := 0, locals := 12 } : Room) s m #[(.ref r0), (.ref r1), (.int (0 : Int32))] below meth c s₁ [] 0 0 := Stand.of_body Bd
  have e0 : s₁.heap = h0 := by rw [← hh, Bd.state]; rfl
  have N0 := Fr.nil n0
  have pre0 : ∀ t, Steps p.tables e below (s₁.setTop (mkF m 0 #[rv r0, rv r1, iv (0 : Int32)] [])) t → Steps p.tables e below (s₁.setTop (entryFrame m #[(.ref r0), (.ref r1), (.int (0 : Int32))] 3)) t := fun t k => castTop (ef_14 m r0 r1 (0 : Int32)) k
  have pre1 : ∀ t, Steps p.tables e below (s₁.setTop (mkF m 1 #[rv r0, rv r1, iv (0 : Int32)] [(.ref r0)])) t → Steps p.tables e below (s₁.setTop (entryFrame m #[(.ref r0), (.ref r1), (.int (0 : Int32))] 3)) t := by
    intro t kt
    refine pre0 _ ?_
    show Steps p.tables e below (s₁.setTop (mkF m 0 #[rv r0, rv r1, iv (0 : Int32)] [])) _
    refine XS.aloadN X0.here hx rfl (hb hby d14_0) rfl rfl ?_
    exact kt
  obtain ⟨T2, X2, e2, st2⟩ := initO X0 hx hZ hown (hw _ (List.mem_of_getElem? (i := 15) rfl)) (hw _ (List.mem_of_getElem? (i := 16) rfl)) (hw _ (List.mem_of_getElem? (i := 17) rfl)) e0 (g := (mkF m 1 #[rv r0, rv r1, iv (0 : Int32)] [(.ref r0)])) rfl (by rw [hml]; rfl) rfl (hb hby d14_1) (by decide) (W := 0) (by show 2 * 0 + _ ≤ _; exact Nat.le_of_eq rfl) (by decide)
  have pre3 : ∀ t, Steps p.tables e below (T2.setTop (mkF m 6 #[rv r0, rv r1, iv (0 : Int32)] [(.ref r1), (.ref r0)])) t → Steps p.tables e below (s₁.setTop (entryFrame m #[(.ref r0), (.ref r1), (.int (0 : Int32))] 3)) t := by
    intro t kt
    refine pre1 _ ?_
    show Steps p.tables e below (s₁.setTop (mkF m 1 #[rv r0, rv r1, iv (0 : Int32)] [(.ref r0)])) _
    refine st2 _ ?_
    show Steps p.tables e below (T2.setTop (mkF m 4 #[rv r0, rv r1, iv (0 : Int32)] [])) _
    refine XS.aloadN X2.here hx rfl (hb hby d14_4) rfl rfl ?_
    show Steps p.tables e below (T2.setTop (mkF m 5 #[rv r0, rv r1, iv (0 : Int32)] [(.ref r0)])) _
    refine XS.aloadN X2.here hx rfl (hb hby d14_5) rfl rfl ?_
    exact kt
  obtain ⟨T4, h4, X4, e4, W4, st4⟩ := putF X2 hx hZ hown (host := "") (Or.inl (hw _ (List.mem_of_getElem? (i := 32) rfl))) Via.refl e2 F_value_r0 E_r0 (Or.inr ⟨(hw _ (List.mem_of_getElem? (i := 33) rfl)), rfl, hnm⟩) (hw _ (List.mem_of_getElem? (i := 5) rfl)) (ty := (.array .byte)) (by decide) rfl rfl (g := (mkF m 6 #[rv r0, rv r1, iv (0 : Int32)] [(.ref r1), (.ref r0)])) rfl rfl (hb hby d14_6)
  have Fw4 : Fld Z h4 r0 "java/lang/String" "value" "[B" (.ref r1) := F_value_r0.same W4
  have K4 : Keep h0 h4 [r0] := (Keep.refl h0 [r0]).wr W4 (Or.inl (List.mem_of_getElem? (i := 0) rfl))
  have N4 := Fr.snoc X4 N0 g_r0
  have pre5 : ∀ t, Steps p.tables e below (T4.setTop (mkF m 11 #[rv r0, rv r1, iv (0 : Int32)] [(.int (0 : Int32)), (.ref r0)])) t → Steps p.tables e below (s₁.setTop (entryFrame m #[(.ref r0), (.ref r1), (.int (0 : Int32))] 3)) t := by
    intro t kt
    refine pre3 _ ?_
    show Steps p.tables e below (T2.setTop (mkF m 6 #[rv r0, rv r1, iv (0 : Int32)] [(.ref r1), (.ref r0)])) _
    refine st4 _ ?_
    show Steps p.tables e below (T4.setTop (mkF m 9 #[rv r0, rv r1, iv (0 : Int32)] [])) _
    refine XS.aloadN X4.here hx rfl (hb hby d14_9) rfl rfl ?_
    show Steps p.tables e below (T4.setTop (mkF m 10 #[rv r0, rv r1, iv (0 : Int32)] [(.ref r0)])) _
    refine XS.iloadN X4.here hx rfl (hb hby d14_10) rfl ?_
    exact kt
  obtain ⟨T6, h6, X6, e6, W6, st6⟩ := putFN X4 hx hZ hown (hw _ (List.mem_of_getElem? (i := 30) rfl)) Via.refl e4 (F_coder_r0.other W4 (Or.inr (slot_ne (Or.inr (hw _ (List.mem_of_getElem? (i := 31) rfl))) (Or.inr (hw _ (List.mem_of_getElem? (i := 33) rfl))) (by decide) (t := .byte) (t' := (.array .byte)) (by decide) (by decide)))) (E_r0.wr W4) (Or.inr ⟨(hw _ (List.mem_of_getElem? (i := 31) rfl)), rfl, hnm⟩) (hw _ (List.mem_of_getElem? (i := 5) rfl)) (ty := .byte) (v' := (.int (0 : Int32))) (by decide) rfl (by decide) (g := (mkF m 11 #[rv r0, rv r1, iv (0 : Int32)] [(.int (0 : Int32)), (.ref r0)])) rfl rfl (hb hby d14_11)
  have Fw6 : Fld Z h6 r0 "java/lang/String" "coder" "B" (.int (0 : Int32)) := (F_coder_r0.other W4 (Or.inr (slot_ne (Or.inr (hw _ (List.mem_of_getElem? (i := 31) rfl))) (Or.inr (hw _ (List.mem_of_getElem? (i := 33) rfl))) (by decide) (t := .byte) (t' := (.array .byte)) (by decide) (by decide)))).same W6
  have K6 : Keep h0 h6 [r0] := K4.wr W6 (Or.inl (List.mem_of_getElem? (i := 0) rfl))
  have N6 := Fr.snoc X6 N4 g_r0
  have pre7 : ∀ t, Steps p.tables e below (T6.setTop (mkF m 14 #[rv r0, rv r1, iv (0 : Int32)] [])) t → Steps p.tables e below (s₁.setTop (entryFrame m #[(.ref r0), (.ref r1), (.int (0 : Int32))] 3)) t := by
    intro t kt
    refine pre5 _ ?_
    show Steps p.tables e below (T4.setTop (mkF m 11 #[rv r0, rv r1, iv (0 : Int32)] [(.int (0 : Int32)), (.ref r0)])) _
    refine st6 _ ?_
    exact kt
  obtain ⟨fs, hr, hrun, hended, hW, hsame⟩ := X6.leave (v := none) (fun _ => rfl)
  refine ⟨_, _, pre7 _ ?_, hrun, hended, _, _, rfl, ?_, ⟨_, rfl⟩, hW, hsame.mono (by decide) (by decide)⟩
  · show Steps p.tables e below (T6.setTop (mkF m 14 #[rv r0, rv r1, iv (0 : Int32)] [])) _
    exact X6.returnOut hx Bd.returns (hb hby d14_14) hr
  · show Q14 Z r0 r1 h0 n0 _ T6.heap _
    rw [e6]
    exact ⟨rfl, N6, K6, (Fw4.other W6 (Or.inr (slot_ne (Or.inr (hw _ (List.mem_of_getElem? (i := 33) rfl))) (Or.inr (hw _ (List.mem_of_getElem? (i := 31) rfl))) (by decide) (t := (.array .byte)) (t' := .byte) (by decide) (by decide)))), Fw6⟩
theorem d11_0 : decode jdk_42_method_139_code 0 = .ok (.getstatic 38, 3) := by decide +kernel
theorem d11_3 : decode jdk_42_method_139_code 3 = .ok (.ifCond .eq 23, 3) := by decide +kernel
theorem d11_6 : decode jdk_42_method_139_code 6 = .ok (.iload_n 0, 1) := by decide +kernel
theorem pd2 : parseMethodDescriptor "(C)Z" = some ⟨[.char], some .boolean⟩ := by decide +kernel
theorem d11_7 : decode jdk_42_method_139_code 7 = .ok (.invokestatic 1015, 3) := by decide +kernel
theorem d11_10 : decode jdk_42_method_139_code 10 = .ok (.ifCond .eq 16, 3) := by decide +kernel
theorem d11_13 : decode jdk_42_method_139_code 13 = .ok (.new 10, 3) := by decide +kernel
theorem d11_16 : decode jdk_42_method_139_code 16 = .ok (.dup, 1) := by decide +kernel
theorem d11_17 : decode jdk_42_method_139_code 17 = .ok (.iload_n 0, 1) := by decide +kernel
theorem pd3 : parseMethodDescriptor "(C)[B" = some ⟨[.char], some (.array .byte)⟩ := by decide +kernel
theorem d11_18 : decode jdk_42_method_139_code 18 = .ok (.invokestatic 1018, 3) := by decide +kernel
theorem d11_21 : decode jdk_42_method_139_code 21 = .ok (.iconst 0, 1) := by decide +kernel
theorem pd4 : parseMethodDescriptor "([BB)V" = some ⟨[(.array .byte), .byte], none⟩ := by decide +kernel
theorem d11_22 : decode jdk_42_method_139_code 22 = .ok (.invokespecial 209, 3) := by decide +kernel
theorem d11_25 : decode jdk_42_method_139_code 25 = .ok (.areturn, 1) := by decide +kernel
theorem ef_11 (m : MethodId) (x0 : Int32) : entryFrame m #[(.int x0)] 1 = mkF m 0 #[.val (.int x0)] [] := by first | (simp [entryFrame, mkF, argsToLocals, Value.category]; done) | rfl
def Q11 (Z : State) (p0 : Int32) (cs : Int32) (h0 : Heap) (n0 : Nat) (v : Option Value) (h : Heap) (L : List Loc) : Prop := ∃ x y k, v = some (.ref x) ∧ Fr n0 L ∧ Keep h0 h [] ∧ h0.size ≤ x ∧ h0.size ≤ y ∧ Exa Z h x "java/lang/String" ∧ Fld Z h x "java/lang/String" "value" "[B" (.ref y) ∧ Fld Z h x "java/lang/String" "coder" "B" (.int (0 : Int32)) ∧ Arv Z h y k .byte (1 : Int32) [(.int (p0.toInt8.toInt32))] (.int (0 : Int32))
set_option maxRecDepth 65536 in
set_option maxHeartbeats 40000000 in
theorem rm11 (l : Launch) (Z : State) (a0 : Array Value) (hw : ∀ d ∈ tables_1, d.before a0 Z = true) (ws : List Jvm.Cond) (p0 : Int32) (cs : Int32) (h0 : Heap) (n0 : Nat) (Z0 : n0 ≤ h0.size) (O0 : Old Z n0 h0) (S_cs : Sta Z Z.heap "java/lang/String" "COMPACT_STRINGS" "Z" (.int cs)) (hcs : ¬ (cs = (0 : Int32))) (hc : ¬ ((255 : Int32) < p0)) :
    MetFree l (⟨"java/lang/String", "valueOf", "(C)Ljava/lang/String;"⟩ : MethodName) (head1 (Jvm.Cond.code (⟨"java/lang/String", "valueOf", "(C)Ljava/lang/String;"⟩ : MethodName) jdk_42_method_139_code 1 (some (.object "java/lang/String")) :: ws) ({ frames := 2, cells := 2, slots := 5, locals := 27 } : Room)) (fun a U => a = #[(.int p0)] ∧ Z.Warmed39 U.vm ∧ U.heap = h0) (fun _ _ _ _ _ => True) (fun _ U o U' => ∃ v L, o = .returned v ∧ Q11 Z p0 cs h0 n0 v U'.heap L ∧ FrameEnd U o U' L ({ frames := 2, cells := 2, slots := 5, locals := 27 } : Room).cells ({ frames := 2, cells := 2, slots := 5, locals := 27 } : Room).slots) := by
  refine MetFree.of_bodySF (plainFor_of_name pn1) hisR ?_
  intro p e s m args below meth c s₁ Bd hml0 hP hK
  obtain ⟨rfl, hZ, hh⟩ := hP
  have hx := Bd.exec
  have hby := Bd.bytes
  have hml : c.maxLocals = 1 := hml0
  have hown : s.vm.findClass "java/lang/String" = some m.cls := findClass_of_methodNamed Bd.named
  have hnm := (name_of_methodNamed Bd.named Bd.method).1
  have X0 : Stand p l e ({ frames := 2, cells := 2, slots := 5, locals := 27 } : Room) s m #[(.int p0)] below meth c s₁ [] 0 0 := Stand.of_body Bd
  have e0 : s₁.heap = h0 := by rw [← hh, Bd.state]; rfl
  have N0 := Fr.nil n0
  have pre0 : ∀ t, Steps p.tables e below (s₁.setTop (mkF m 0 #[iv p0] [])) t → Steps p.tables e below (s₁.setTop (entryFrame m #[(.int p0)] 1)) t := fun t k => castTop (ef_11 m p0) k
  obtain ⟨T1, X1, e1, st1⟩ := getS2 X0 hx hZ hown (host := "") (Or.inl (hw _ (List.mem_of_getElem? (i := 18) rfl))) Via.refl e0 (S_cs.ext (O0.keep (Keep.refl h0 []) all0).2) (g := (mkF m 0 #[iv p0] [])) rfl (hb hby d11_0)
  have pre3 : ∀ t, Steps p.tables e below (T1.setTop (mkF m 3 #[iv p0] [(.int cs)])) t → Steps p.tables e below (s₁.setTop (entryFrame m #[(.int p0)] 1)) t := by
    intro t kt
    refine pre0 _ ?_
    show Steps p.tables e below (s₁.setTop (mkF m 0 #[iv p0] [])) _
    refine st1 _ ?_
    exact kt
  have hc3_2 : ¬ (cs = (0 : Int32)) := hcs
  have pre4 : ∀ t, Steps p.tables e below (T1.setTop (mkF m 7 #[iv p0] [(.int p0)])) t → Steps p.tables e below (s₁.setTop (entryFrame m #[(.int p0)] 1)) t := by
    intro t kt
    refine pre3 _ ?_
    show Steps p.tables e below (T1.setTop (mkF m 3 #[iv p0] [(.int cs)])) _
    refine XS.ifNo X1.here hx rfl (hb hby d11_3) rfl ((if0 _ _).trans (feq hc3_2).1) ?_
    show Steps p.tables e below (T1.setTop (mkF m 6 #[iv p0] [])) _
    refine XS.iloadN X1.here hx rfl (hb hby d11_6) rfl ?_
    exact kt
  obtain ⟨_, _, ⟨T5, L5, k5, n5⟩, -, X5, ⟨Lc5, hQ5, l5, y5, z5⟩, st5⟩ := Jvm.LawKit.callS X1 hx (y := (⟨"java/lang/StringLatin1", "canEncode", "(C)Z"⟩ : MethodName)) hown (mvT hZ (hw _ (List.mem_of_getElem? (i := 61) rfl))) (mvT hZ (hw _ (List.mem_of_getElem? (i := 62) rfl))) (mvT hZ (hw _ (List.mem_of_getElem? (i := 63) rfl))) (mvT hZ (hw _ (List.mem_of_getElem? (i := 64) rfl))) (by decide) (backOf (W := 0) (rm12 l Z a0 hw [] p0 h0 n0 (Nat.le_trans Z0 (Keep.refl h0 []).1) hc) hZ (hw _ (List.mem_of_getElem? (i := 64) rfl)) (hw _ (List.mem_of_getElem? (i := 63) rfl)) (by decide) (by decide)) (g := (mkF m 7 #[iv p0] [(.int p0)])) rfl (by rw [hml]; rfl) (argsL := [(.int p0)]) (rest := []) (lenOf pd2 rfl) rfl (by show 2 * 0 + _ ≤ _; exact Nat.le_of_eq rfl) (hb hby d11_7) (fun _ _ => ⟨rfl, e1, (by decide : 0 + 0 ≤ _), (by decide : 0 + 0 ≤ _)⟩)
  dsimp only [Pt.U, Pt.locs, Pt.cells, Pt.slots] at X5 l5 y5 z5 st5 hQ5
  subst l5 y5 z5
  obtain ⟨rfl, N5q, hh5⟩ := hQ5
  have N5 := Fr.app N0 N5q
  have pre6 : ∀ t, Steps p.tables e below (T5.setTop (mkF m 13 #[iv p0] [])) t → Steps p.tables e below (s₁.setTop (entryFrame m #[(.int p0)] 1)) t := by
    intro t kt
    refine pre4 _ ?_
    show Steps p.tables e below (T1.setTop (mkF m 7 #[iv p0] [(.int p0)])) _
    refine st5 _ ?_
    show Steps p.tables e below (T5.setTop (mkF m 10 #[iv p0] [(.int (1 : Int32))])) _
    refine XS.ifNo X5.here hx rfl (hb hby d11_10) rfl ((if0 _ _).trans (feq (by decide)).1) ?_
    exact kt
  obtain ⟨T7, h7, X7, e7, E7, A7, D7, -, st7⟩ := newO X5 hx hZ hown (hw _ (List.mem_of_getElem? (i := 65) rfl)) (hw _ (List.mem_of_getElem? (i := 5) rfl)) (hw _ (List.mem_of_getElem? (i := 6) rfl)) hh5 (g := (mkF m 13 #[iv p0] [])) rfl (hb hby d11_13) (by decide) (by decide)
  obtain ⟨b7, g7⟩ : ∃ z, z = h0.size := ⟨_, rfl⟩
  rw [← g7] at A7 D7 st7
  have g_b7 : n0 ≤ b7 := Nat.le_trans (Nat.le_trans Z0 (Keep.refl h0 []).1) (Nat.le_of_eq g7.symm)
  have sz_b7 : h0.size ≤ b7 := Nat.le_trans (Keep.refl h0 []).1 (Nat.le_of_eq g7.symm)
  have F_coder_b7 : Fld Z h7 b7 "java/lang/String" "coder" "B" (.int (0 : Int32)) := D7 (Or.inr (hw _ (List.mem_of_getElem? (i := 31) rfl))) (ty := .byte) (by decide)
  have F_value_b7 : Fld Z h7 b7 "java/lang/String" "value" "[B" .null := D7 (Or.inr (hw _ (List.mem_of_getElem? (i := 33) rfl))) (ty := (.array .byte)) (by decide)
  have K7 : Keep h0 h7 [] := (Keep.refl h0 []).ext E7
  have pre8 : ∀ t, Steps p.tables e below (T7.setTop (mkF m 18 #[iv p0] [(.int p0), (.ref b7), (.ref b7)])) t → Steps p.tables e below (s₁.setTop (entryFrame m #[(.int p0)] 1)) t := by
    intro t kt
    refine pre6 _ ?_
    show Steps p.tables e below (T5.setTop (mkF m 13 #[iv p0] [])) _
    refine st7 _ ?_
    show Steps p.tables e below (T7.setTop (mkF m 16 #[iv p0] [(.ref b7)])) _
    refine XS.dup X7.here hx rfl (hb hby d11_16) rfl rfl ?_
    show Steps p.tables e below (T7.setTop (mkF m 17 #[iv p0] [(.ref b7), (.ref b7)])) _
    refine XS.iloadN X7.here hx rfl (hb hby d11_17) rfl ?_
    exact kt
  obtain ⟨_, _, ⟨T9, L9, k9, n9⟩, -, X9, ⟨Lc9, hQ9, l9, y9, z9⟩, st9⟩ := Jvm.LawKit.callS X7 hx (y := (⟨"java/lang/StringLatin1", "toBytes", "(C)[B"⟩ : MethodName)) hown (mvT hZ (hw _ (List.mem_of_getElem? (i := 66) rfl))) (mvT hZ (hw _ (List.mem_of_getElem? (i := 67) rfl))) (mvT hZ (hw _ (List.mem_of_getElem? (i := 63) rfl))) (mvT hZ (hw _ (List.mem_of_getElem? (i := 68) rfl))) (by decide) (backOf (W := 2) (rm13 l Z a0 hw [] p0 h7 n0 (Nat.le_trans Z0 K7.1)) hZ (hw _ (List.mem_of_getElem? (i := 68) rfl)) (hw _ (List.mem_of_getElem? (i := 63) rfl)) (by decide) (by decide)) (g := (mkF m 18 #[iv p0] [(.int p0), (.ref b7), (.ref b7)])) rfl (by rw [hml]; rfl) (argsL := [(.int p0)]) (rest := [(.ref b7), (.ref b7)]) (lenOf pd3 rfl) rfl (by show 2 * 0 + _ ≤ _; exact Nat.le_of_eq rfl) (hb hby d11_18) (fun _ _ => ⟨rfl, e7, (by decide : 1 + 1 ≤ _), (by decide : 4 + 1 ≤ _)⟩)
  dsimp only [Pt.U, Pt.locs, Pt.cells, Pt.slots] at X9 l9 y9 z9 st9 hQ9
  subst l9 y9 z9
  obtain ⟨y9, ky9, rfl, N9q, Kc9, hy9, Vy9⟩ := hQ9
  have N9 := Fr.app N5 N9q
  have K9 : Keep h0 T9.heap [] := K7.trans Kc9 all0
  have g_y9 : n0 ≤ y9 := Nat.le_trans (Nat.le_trans Z0 K7.1) hy9
  have sz_y9 : h0.size ≤ y9 := Nat.le_trans K7.1 hy9
  have ne_9 : b7 ≠ y9 := Nat.ne_of_lt (Nat.lt_of_lt_of_le A7.lt hy9)
  have pre10 : ∀ t, Steps p.tables e below (T9.setTop (mkF m 22 #[iv p0] [(.int (0 : Int32)), (.ref y9), (.ref b7), (.ref b7)])) t → Steps p.tables e below (s₁.setTop (entryFrame m #[(.int p0)] 1)) t := by
    intro t kt
    refine pre8 _ ?_
    show Steps p.tables e below (T7.setTop (mkF m 18 #[iv p0] [(.int p0), (.ref b7), (.ref b7)])) _
    refine st9 _ ?_
    show Steps p.tables e below (T9.setTop (mkF m 21 #[iv p0] [(.ref y9), (.ref b7), (.ref b7)])) _
    refine XS.iconst X9.here hx rfl (hb hby d11_21) ?_
    exact kt
  obtain ⟨_, _, ⟨T11, L11, k11, n11⟩, -, X11, ⟨Lc11, hQ11, l11, y11, z11⟩, st11⟩ := X9.specialBack hx (y := (⟨"java/lang/String", "<init>", "([BB)V"⟩ : MethodName)) rfl hown (mvT hZ (hw _ (List.mem_of_getElem? (i := 69) rfl))) (mvT hZ (hw _ (List.mem_of_getElem? (i := 70) rfl))) (mvT hZ (hw _ (List.mem_of_getElem? (i := 71) rfl))) (by decide) (backOf (W := 1) (rm14 l Z a0 hw [] b7 y9 T9.heap n0 (Nat.le_trans Z0 K9.1) (F_value_b7.keep Kc9 nin0) (F_coder_b7.keep Kc9 nin0) (A7.keep Kc9) g_b7) hZ (hw _ (List.mem_of_getElem? (i := 71) rfl)) (hw _ (List.mem_of_getElem? (i := 6) rfl)) (by decide) (by decide)) (g := (mkF m 22 #[iv p0] [(.int (0 : Int32)), (.ref y9), (.ref b7), (.ref b7)])) rfl (by rw [hml]; rfl) (Steps.refl _) (a := b7) (argsL := [(.ref y9), (.int (0 : Int32))]) (rest := [(.ref b7)]) (lenOf pd4 rfl) rfl (by show 2 * 0 + _ ≤ _; exact Nat.le_of_eq rfl) (hb hby d11_22) (fun _ _ => ⟨rfl, rfl, (by decide : 2 + 0 ≤ _), (by decide : 5 + 0 ≤ _)⟩)
  dsimp only [Pt.U, Pt.locs, Pt.cells, Pt.slots] at X11 l11 y11 z11 st11 hQ11
  subst l11 y11 z11
  obtain ⟨rfl, N11q, Kc11, Fv11, Fc11⟩ := hQ11
  have N11 := Fr.app N9 N11q
  have K11 : Keep h0 T11.heap [] := K9.trans Kc11 (allS (Or.inr sz_b7) all0)
  have pre12 : ∀ t, Steps p.tables e below (T11.setTop (mkF m 25 #[iv p0] [(.ref b7)])) t → Steps p.tables e below (s₁.setTop (entryFrame m #[(.int p0)] 1)) t := by
    intro t kt
    refine pre10 _ ?_
    show Steps p.tables e below (T9.setTop (mkF m 22 #[iv p0] [(.int (0 : Int32)), (.ref y9), (.ref b7), (.ref b7)])) _
    refine st11.trans ?_
    exact kt
  obtain ⟨fs, hr, hrun, hended, hW, hsame⟩ := X11.leave (v := some (.ref b7)) (fun h => by rw [Bd.returns] at h; cases h)
  refine ⟨_, _, pre12 _ ?_, hrun, hended, _, _, rfl, ?_, ⟨_, rfl⟩, hW, hsame.mono (by decide) (by decide)⟩
  · show Steps p.tables e below (T11.setTop (mkF m 25 #[iv p0] [(.ref b7)])) _
    jvm_step X11.here [X11.here.top, hx, (hb hby d11_25), X11.method', Bd.returns, Value.isRef, FieldType.isReference]
    first | (intro acts; rw [hr _ acts rfl rfl rfl]) | rw [hr _ _ rfl rfl rfl]
    exact Steps.refl _
  · show Q11 Z p0 cs h0 n0 _ T11.heap _
    exact ⟨b7, y9, ky9, rfl, N11, K11, sz_b7, sz_y9, ((A7.keep Kc9).keep Kc11), Fv11, Fc11, (Vy9.keep Kc11 (ninS (Ne.symm ne_9) nin0))⟩
theorem pn5 : plainName "java/lang/StringUTF16" = true := by first | (simp [plainName, overriddenIn]; done) | decide +kernel
theorem d6_0 : decode jdk_52_method_21_code 0 = .ok (.iconst 0, 1) := by decide +kernel
theorem d6_1 : decode jdk_52_method_21_code 1 = .ok (.istore 5, 2) := by decide +kernel
theorem d6_3 : decode jdk_52_method_21_code 3 = .ok (.iload 5, 2) := by decide +kernel
theorem d6_5 : decode jdk_52_method_21_code 5 = .ok (.iload 4, 2) := by decide +kernel
theorem d6_7 : decode jdk_52_method_21_code 7 = .ok (.if_icmp .ge 37, 3) := by decide +kernel
theorem d6_10 : decode jdk_52_method_21_code 10 = .ok (.aload_n 0, 1) := by decide +kernel
theorem d6_11 : decode jdk_52_method_21_code 11 = .ok (.iload_n 1, 1) := by decide +kernel
theorem d6_12 : decode jdk_52_method_21_code 12 = .ok (.caload, 1) := by decide +kernel
theorem d6_13 : decode jdk_52_method_21_code 13 = .ok (.istore 6, 2) := by decide +kernel
theorem d6_15 : decode jdk_52_method_21_code 15 = .ok (.iload 6, 2) := by decide +kernel
theorem d6_17 : decode jdk_52_method_21_code 17 = .ok (.sipush 255, 3) := by decide +kernel
theorem d6_20 : decode jdk_52_method_21_code 20 = .ok (.if_icmp .le 6, 3) := by decide +kernel
theorem d6_26 : decode jdk_52_method_21_code 26 = .ok (.aload_n 2, 1) := by decide +kernel
theorem d6_27 : decode jdk_52_method_21_code 27 = .ok (.iload_n 3, 1) := by decide +kernel
theorem d6_28 : decode jdk_52_method_21_code 28 = .ok (.iload 6, 2) := by decide +kernel
theorem d6_30 : decode jdk_52_method_21_code 30 = .ok (.i2b, 1) := by decide +kernel
theorem d6_31 : decode jdk_52_method_21_code 31 = .ok (.bastore, 1) := by decide +kernel
theorem d6_32 : decode jdk_52_method_21_code 32 = .ok (.iinc 1 1, 3) := by decide +kernel
theorem d6_35 : decode jdk_52_method_21_code 35 = .ok (.iinc 3 1, 3) := by decide +kernel
theorem d6_38 : decode jdk_52_method_21_code 38 = .ok (.iinc 5 1, 3) := by decide +kernel
theorem d6_41 : decode jdk_52_method_21_code 41 = .ok (.goto (-38), 3) := by decide +kernel
theorem d6_44 : decode jdk_52_method_21_code 44 = .ok (.iload 4, 2) := by decide +kernel
theorem d6_46 : decode jdk_52_method_21_code 46 = .ok (.ireturn, 1) := by decide +kernel
theorem ef_6 (m : MethodId) (x0 : Addr) (x1 : Int32) (x2 : Addr) (x3 : Int32) (x4 : Int32) : entryFrame m #[(.ref x0), (.int x1), (.ref x2), (.int x3), (.int x4)] 7 = mkF m 0 #[.val (.ref x0), .val (.int x1), .val (.ref x2), .val (.int x3), .val (.int x4), .unset, .unset] [] := by first | (simp [entryFrame, mkF, argsToLocals, Value.category]; done) | rfl
def Q6 (Z : State) (r0 : Addr) (r2 : Addr) (kc : ClassId) (kb : ClassId) (c0 : Int32) (c1 : Int32) (h0 : Heap) (n0 : Nat) (v : Option Value) (h : Heap) (L : List Loc) : Prop := v = some (.int (2 : Int32)) ∧ Fr n0 L ∧ Keep h0 h [r2] ∧ Arv Z h r2 kb .byte (2 : Int32) [(.int (c0.toInt8.toInt32)), (.int (c1.toInt8.toInt32))] (.int (0 : Int32))
set_option maxRecDepth 65536 in
set_option maxHeartbeats 40000000 in
theorem rm6 (l : Launch) (Z : State) (a0 : Array Value) (hw : ∀ d ∈ tables_1, d.before a0 Z = true) (ws : List Jvm.Cond) (r0 : Addr) (r2 : Addr) (kc : ClassId) (kb : ClassId) (c0 : Int32) (c1 : Int32) (h0 : Heap) (n0 : Nat) (Z0 : n0 ≤ h0.size) (V_r0 : Arv Z h0 r0 kc .char (2 : Int32) [(.int c0), (.int c1)] (.int (0 : Int32))) (V_r2 : Arv Z h0 r2 kb .byte (2 : Int32) [(.int (0 : Int32)), (.int (0 : Int32))] (.int (0 : Int32))) (g_r2 : n0 ≤ r2) (h255_0 : ¬ ((255 : Int32) < c0)) (h255_1 : ¬ ((255 : Int32) < c1)) (hne : r0 ≠ r2) :
    MetFree l (⟨"java/lang/StringUTF16", "compress", "([CI[BII)I"⟩ : MethodName) (head1 (Jvm.Cond.code (⟨"java/lang/StringUTF16", "compress", "([CI[BII)I"⟩ : MethodName) jdk_52_method_21_code 7 (some .int) :: ws) ({ frames := 0, cells := 0, slots := 0, locals := 0 } : Room)) (fun a U => a = #[(.ref r0), (.int (0 : Int32)), (.ref r2), (.int (0 : Int32)), (.int (2 : Int32))] ∧ Z.Warmed39 U.vm ∧ U.heap = h0) (fun _ _ _ _ _ => True) (fun _ U o U' => ∃ v L, o = .returned v ∧ Q6 Z r0 r2 kc kb c0 c1 h0 n0 v U'.heap L ∧ FrameEnd U o U' L ({ frames := 0, cells := 0, slots := 0, locals := 0 } : Room).cells ({ frames := 0, cells := 0, slots := 0, locals := 0 } : Room).slots) := by
  refine MetFree.of_bodySF (plainFor_of_name pn5) hisR ?_
  intro p e s m args below meth c s₁ Bd hml0 hP hK
  obtain ⟨rfl, hZ, hh⟩ := hP
  have hx := Bd.exec
  have hby := Bd.bytes
  have hml : c.maxLocals = 7 := hml0
  have hown : s.vm.findClass "java/lang/StringUTF16" = some m.cls := findClass_of_methodNamed Bd.named
  have hnm := (name_of_methodNamed Bd.named Bd.method).1
  have X0 : Stand p l e ({ frames := 0, cells := 0, slots := 0, locals := 0 } : Room) s m #[(.ref r0), (.int (0 : Int32)), (.ref r2), (.int (0 : Int32)), (.int (2 : Int32))] below meth c s₁ [] 0 0 := Stand.of_body Bd
  have e0 : s₁.heap = h0 := by rw [← hh, Bd.state]; rfl
  have N0 := Fr.nil n0
  have pre0 : ∀ t, Steps p.tables e below (s₁.setTop (mkF m 0 #[rv r0, iv (0 : Int32), rv r2, iv (0 : Int32), iv (2 : Int32), .unset, .unset] [])) t → Steps p.tables e below (s₁.setTop (entryFrame m #[(.ref r0), (.int (0 : Int32)), (.ref r2), (.int (0 : Int32)), (.int (2 : Int32))] 7)) t := fun t k => castTop (ef_6 m r0 (0 : Int32) r2 (0 : Int32) (2 : Int32)) k
  obtain ⟨cl1, Ar1, q1, S1, M1, H1, G1⟩ := id V_r0
  have hin1 : ¬ ((0 : Int32) < 0 ∨ cl1.slots.size ≤ ((0 : Int32)).toNatClampNeg) := inb_of S1 ⟨by decide, by decide⟩
  have hat1 : cl1.slots[((0 : Int32)).toNatClampNeg]? = some (.int c0) := H1.at hin1 rfl
  have pre3 : ∀ t, Steps p.tables e below (s₁.setTop (mkF m 20 #[rv r0, iv (0 : Int32), rv r2, iv (0 : Int32), iv (2 : Int32), iv (0 : Int32), iv c0] [(.int (255 : Int32)), (.int c0)])) t → Steps p.tables e below (s₁.setTop (entryFrame m #[(.ref r0), (.int (0 : Int32)), (.ref r2), (.int (0 : Int32)), (.int (2 : Int32))] 7)) t := by
    intro t kt
    refine pre0 _ ?_
    show Steps p.tables e below (s₁.setTop (mkF m 0 #[rv r0, iv (0 : Int32), rv r2, iv (0 : Int32), iv (2 : Int32), .unset, .unset] [])) _
    refine XS.iconst X0.here hx rfl (hb hby d6_0) ?_
    show Steps p.tables e below (s₁.setTop (mkF m 1 #[rv r0, iv (0 : Int32), rv r2, iv (0 : Int32), iv (2 : Int32), .unset, .unset] [(.int (0 : Int32))])) _
    refine XS.istore X0.here hx rfl (hb hby d6_1) rfl (l' := #[rv r0, iv (0 : Int32), rv r2, iv (0 : Int32), iv (2 : Int32), iv (0 : Int32), .unset]) rfl ?_
    show Steps p.tables e below (s₁.setTop (mkF m 3 #[rv r0, iv (0 : Int32), rv r2, iv (0 : Int32), iv (2 : Int32), iv (0 : Int32), .unset] [])) _
    refine XS.iload X0.here hx rfl (hb hby d6_3) rfl ?_
    show Steps p.tables e below (s₁.setTop (mkF m 5 #[rv r0, iv (0 : Int32), rv r2, iv (0 : Int32), iv (2 : Int32), iv (0 : Int32), .unset] [(.int (0 : Int32))])) _
    refine XS.iload X0.here hx rfl (hb hby d6_5) rfl ?_
    show Steps p.tables e below (s₁.setTop (mkF m 7 #[rv r0, iv (0 : Int32), rv r2, iv (0 : Int32), iv (2 : Int32), iv (0 : Int32), .unset] [(.int (2 : Int32)), (.int (0 : Int32))])) _
    refine XS.icmpNo X0.here hx rfl (hb hby d6_7) rfl (tlt (by decide)).2.1 ?_
    show Steps p.tables e below (s₁.setTop (mkF m 10 #[rv r0, iv (0 : Int32), rv r2, iv (0 : Int32), iv (2 : Int32), iv (0 : Int32), .unset] [])) _
    refine XS.aloadN X0.here hx rfl (hb hby d6_10) rfl rfl ?_
    show Steps p.tables e below (s₁.setTop (mkF m 11 #[rv r0, iv (0 : Int32), rv r2, iv (0 : Int32), iv (2 : Int32), iv (0 : Int32), .unset] [(.ref r0)])) _
    refine XS.iloadN X0.here hx rfl (hb hby d6_11) rfl ?_
    show Steps p.tables e below (s₁.setTop (mkF m 12 #[rv r0, iv (0 : Int32), rv r2, iv (0 : Int32), iv (2 : Int32), iv (0 : Int32), .unset] [(.int (0 : Int32)), (.ref r0)])) _
    refine X0.caload hx (j := (0 : Int32)) (v := (.int c0)) (by rw [e0]; exact Ar1.1) (State.isArrayOf_alike hZ.alike Ar1.2.1) Ar1.2.2 hin1 hat1 (g := (mkF m 12 #[rv r0, iv (0 : Int32), rv r2, iv (0 : Int32), iv (2 : Int32), iv (0 : Int32), .unset] [(.int (0 : Int32)), (.ref r0)])) rfl rfl (hb hby d6_12) _ ?_
    show Steps p.tables e below (s₁.setTop (mkF m 13 #[rv r0, iv (0 : Int32), rv r2, iv (0 : Int32), iv (2 : Int32), iv (0 : Int32), .unset] [(.int c0)])) _
    refine XS.istore X0.here hx rfl (hb hby d6_13) rfl (l' := #[rv r0, iv (0 : Int32), rv r2, iv (0 : Int32), iv (2 : Int32), iv (0 : Int32), iv c0]) rfl ?_
    show Steps p.tables e below (s₁.setTop (mkF m 15 #[rv r0, iv (0 : Int32), rv r2, iv (0 : Int32), iv (2 : Int32), iv (0 : Int32), iv c0] [])) _
    refine XS.iload X0.here hx rfl (hb hby d6_15) rfl ?_
    show Steps p.tables e below (s₁.setTop (mkF m 17 #[rv r0, iv (0 : Int32), rv r2, iv (0 : Int32), iv (2 : Int32), iv (0 : Int32), iv c0] [(.int c0)])) _
    refine XS.sipush X0.here hx rfl (hb hby d6_17) ?_
    exact kt
  have hc20_2 : ¬ ((255 : Int32) < c0) := h255_0
  have pre4 : ∀ t, Steps p.tables e below (s₁.setTop (mkF m 31 #[rv r0, iv (0 : Int32), rv r2, iv (0 : Int32), iv (2 : Int32), iv (0 : Int32), iv c0] [(.int (c0.toInt8.toInt32)), (.int (0 : Int32)), (.ref r2)])) t → Steps p.tables e below (s₁.setTop (entryFrame m #[(.ref r0), (.int (0 : Int32)), (.ref r2), (.int (0 : Int32)), (.int (2 : Int32))] 7)) t := by
    intro t kt
    refine pre3 _ ?_
    show Steps p.tables e below (s₁.setTop (mkF m 20 #[rv r0, iv (0 : Int32), rv r2, iv (0 : Int32), iv (2 : Int32), iv (0 : Int32), iv c0] [(.int (255 : Int32)), (.int c0)])) _
    refine XS.icmpYes X0.here hx rfl (pc0 := 20) (pc' := 26) rfl (hb hby d6_20) rfl (flt hc20_2).2.2.2 (by decide) (by decide) ?_
    show Steps p.tables e below (s₁.setTop (mkF m 26 #[rv r0, iv (0 : Int32), rv r2, iv (0 : Int32), iv (2 : Int32), iv (0 : Int32), iv c0] [])) _
    refine XS.aloadN X0.here hx rfl (hb hby d6_26) rfl rfl ?_
    show Steps p.tables e below (s₁.setTop (mkF m 27 #[rv r0, iv (0 : Int32), rv r2, iv (0 : Int32), iv (2 : Int32), iv (0 : Int32), iv c0] [(.ref r2)])) _
    refine XS.iloadN X0.here hx rfl (hb hby d6_27) rfl ?_
    show Steps p.tables e below (s₁.setTop (mkF m 28 #[rv r0, iv (0 : Int32), rv r2, iv (0 : Int32), iv (2 : Int32), iv (0 : Int32), iv c0] [(.int (0 : Int32)), (.ref r2)])) _
    refine XS.iload X0.here hx rfl (hb hby d6_28) rfl ?_
    show Steps p.tables e below (s₁.setTop (mkF m 30 #[rv r0, iv (0 : Int32), rv r2, iv (0 : Int32), iv (2 : Int32), iv (0 : Int32), iv c0] [(.int c0), (.int (0 : Int32)), (.ref r2)])) _
    refine XS.i2b X0.here hx rfl (hb hby d6_30) rfl ?_
    exact kt
  obtain ⟨cl5, Ar5, q5, S5, M5, H5, G5⟩ := id V_r2
  have hin5 : ¬ ((0 : Int32) < 0 ∨ cl5.slots.size ≤ ((0 : Int32)).toNatClampNeg) := inb_of S5 ⟨by decide, by decide⟩
  obtain ⟨T5, h5, X5, e5, W5, st5⟩ := stB X0 hx hZ e0 Ar5 (j := (0 : Int32)) hin5 (g := (mkF m 31 #[rv r0, iv (0 : Int32), rv r2, iv (0 : Int32), iv (2 : Int32), iv (0 : Int32), iv c0] [(.int (c0.toInt8.toInt32)), (.int (0 : Int32)), (.ref r2)])) rfl rfl (hb hby d6_31)
  have nn5 : nar .byte (c0.toInt8.toInt32) = (c0.toInt8.toInt32) := (own_nb _)
  rw [nn5] at W5
  have V5 : Arv Z h5 r2 kb .byte (2 : Int32) [(.int (c0.toInt8.toInt32)), (.int (0 : Int32))] (.int (0 : Int32)) := Arv.set Ar5 q5 S5 M5 H5 G5 (own_fb nn5) W5 0 rfl (Nat.le_of_ble_eq_true rfl)
  have K5 : Keep h0 h5 [r2] := (Keep.refl h0 [r2]).wr W5 (Or.inl (List.mem_of_getElem? (i := 0) rfl))
  have N5 := Fr.snoc X5 N0 g_r2
  obtain ⟨cl6, Ar6, q6, S6, M6, H6, G6⟩ := id (V_r0.other W5 hne)
  have hin6 : ¬ ((1 : Int32) < 0 ∨ cl6.slots.size ≤ ((1 : Int32)).toNatClampNeg) := inb_of S6 ⟨by decide, by decide⟩
  have hat6 : cl6.slots[((1 : Int32)).toNatClampNeg]? = some (.int c1) := H6.at hin6 rfl
  have pre8 : ∀ t, Steps p.tables e below (T5.setTop (mkF m 20 #[rv r0, iv (1 : Int32), rv r2, iv (1 : Int32), iv (2 : Int32), iv (1 : Int32), iv c1] [(.int (255 : Int32)), (.int c1)])) t → Steps p.tables e below (s₁.setTop (entryFrame m #[(.ref r0), (.int (0 : Int32)), (.ref r2), (.int (0 : Int32)), (.int (2 : Int32))] 7)) t := by
    intro t kt
    refine pre4 _ ?_
    show Steps p.tables e below (s₁.setTop (mkF m 31 #[rv r0, iv (0 : Int32), rv r2, iv (0 : Int32), iv (2 : Int32), iv (0 : Int32), iv c0] [(.int (c0.toInt8.toInt32)), (.int (0 : Int32)), (.ref r2)])) _
    refine st5 _ ?_
    show Steps p.tables e below (T5.setTop (mkF m 32 #[rv r0, iv (0 : Int32), rv r2, iv (0 : Int32), iv (2 : Int32), iv (0 : Int32), iv c0] [])) _
    refine XS.iinc X5.here hx rfl (hb hby d6_32) rfl (l' := #[rv r0, iv ((0 : Int32) + (1 : Int32)), rv r2, iv (0 : Int32), iv (2 : Int32), iv (0 : Int32), iv c0]) rfl ?_
    show Steps p.tables e below (T5.setTop (mkF m 35 #[rv r0, iv ((0 : Int32) + (1 : Int32)), rv r2, iv (0 : Int32), iv (2 : Int32), iv (0 : Int32), iv c0] [])) _
    rw [show ((0 : Int32) + (1 : Int32)) = (1 : Int32) from (by decide)]
    show Steps p.tables e below (T5.setTop (mkF m 35 #[rv r0, iv (1 : Int32), rv r2, iv (0 : Int32), iv (2 : Int32), iv (0 : Int32), iv c0] [])) _
    refine XS.iinc X5.here hx rfl (hb hby d6_35) rfl (l' := #[rv r0, iv (1 : Int32), rv r2, iv ((0 : Int32) + (1 : Int32)), iv (2 : Int32), iv (0 : Int32), iv c0]) rfl ?_
    show Steps p.tables e below (T5.setTop (mkF m 38 #[rv r0, iv (1 : Int32), rv r2, iv ((0 : Int32) + (1 : Int32)), iv (2 : Int32), iv (0 : Int32), iv c0] [])) _
    rw [show ((0 : Int32) + (1 : Int32)) = (1 : Int32) from (by decide)]
    show Steps p.tables e below (T5.setTop (mkF m 38 #[rv r0, iv (1 : Int32), rv r2, iv (1 : Int32), iv (2 : Int32), iv (0 : Int32), iv c0] [])) _
    refine XS.iinc X5.here hx rfl (hb hby d6_38) rfl (l' := #[rv r0, iv (1 : Int32), rv r2, iv (1 : Int32), iv (2 : Int32), iv ((0 : Int32) + (1 : Int32)), iv c0]) rfl ?_
    show Steps p.tables e below (T5.setTop (mkF m 41 #[rv r0, iv (1 : Int32), rv r2, iv (1 : Int32), iv (2 : Int32), iv ((0 : Int32) + (1 : Int32)), iv c0] [])) _
    rw [show ((0 : Int32) + (1 : Int32)) = (1 : Int32) from (by decide)]
    show Steps p.tables e below (T5.setTop (mkF m 41 #[rv r0, iv (1 : Int32), rv r2, iv (1 : Int32), iv (2 : Int32), iv (1 : Int32), iv c0] [])) _
    refine XS.goto X5.here hx rfl (pc0 := 41) (pc' := 3) rfl (hb hby d6_41) (by decide) (by decide) ?_
    show Steps p.tables e below (T5.setTop (mkF m 3 #[rv r0, iv (1 : Int32), rv r2, iv (1 : Int32), iv (2 : Int32), iv (1 : Int32), iv c0] [])) _
    refine XS.iload X5.here hx rfl (hb hby d6_3) rfl ?_
    show Steps p.tables e below (T5.setTop (mkF m 5 #[rv r0, iv (1 : Int32), rv r2, iv (1 : Int32), iv (2 : Int32), iv (1 : Int32), iv c0] [(.int (1 : Int32))])) _
    refine XS.iload X5.here hx rfl (hb hby d6_5) rfl ?_
    show Steps p.tables e below (T5.setTop (mkF m 7 #[rv r0, iv (1 : Int32), rv r2, iv (1 : Int32), iv (2 : Int32), iv (1 : Int32), iv c0] [(.int (2 : Int32)), (.int (1 : Int32))])) _
    refine XS.icmpNo X5.here hx rfl (hb hby d6_7) rfl (tlt (by decide)).2.1 ?_
    show Steps p.tables e below (T5.setTop (mkF m 10 #[rv r0, iv (1 : Int32), rv r2, iv (1 : Int32), iv (2 : Int32), iv (1 : Int32), iv c0] [])) _
    refine XS.aloadN X5.here hx rfl (hb hby d6_10) rfl rfl ?_
    show Steps p.tables e below (T5.setTop (mkF m 11 #[rv r0, iv (1 : Int32), rv r2, iv (1 : Int32), iv (2 : Int32), iv (1 : Int32), iv c0] [(.ref r0)])) _
    refine XS.iloadN X5.here hx rfl (hb hby d6_11) rfl ?_
    show Steps p.tables e below (T5.setTop (mkF m 12 #[rv r0, iv (1 : Int32), rv r2, iv (1 : Int32), iv (2 : Int32), iv (1 : Int32), iv c0] [(.int (1 : Int32)), (.ref r0)])) _
    refine X5.caload hx (j := (1 : Int32)) (v := (.int c1)) (by rw [e5]; exact Ar6.1) (State.isArrayOf_alike hZ.alike Ar6.2.1) Ar6.2.2 hin6 hat6 (g := (mkF m 12 #[rv r0, iv (1 : Int32), rv r2, iv (1 : Int32), iv (2 : Int32), iv (1 : Int32), iv c0] [(.int (1 : Int32)), (.ref r0)])) rfl rfl (hb hby d6_12) _ ?_
    show Steps p.tables e below (T5.setTop (mkF m 13 #[rv r0, iv (1 : Int32), rv r2, iv (1 : Int32), iv (2 : Int32), iv (1 : Int32), iv c0] [(.int c1)])) _
    refine XS.istore X5.here hx rfl (hb hby d6_13) rfl (l' := #[rv r0, iv (1 : Int32), rv r2, iv (1 : Int32), iv (2 : Int32), iv (1 : Int32), iv c1]) rfl ?_
    show Steps p.tables e below (T5.setTop (mkF m 15 #[rv r0, iv (1 : Int32), rv r2, iv (1 : Int32), iv (2 : Int32), iv (1 : Int32), iv c1] [])) _
    refine XS.iload X5.here hx rfl (hb hby d6_15) rfl ?_
    show Steps p.tables e below (T5.setTop (mkF m 17 #[rv r0, iv (1 : Int32), rv r2, iv (1 : Int32), iv (2 : Int32), iv (1 : Int32), iv c1] [(.int c1)])) _
    refine XS.sipush X5.here hx rfl (hb hby d6_17) ?_
    exact kt
  have hc20_7 : ¬ ((255 : Int32) < c1) := h255_1
  have pre9 : ∀ t, Steps p.tables e below (T5.setTop (mkF m 31 #[rv r0, iv (1 : Int32), rv r2, iv (1 : Int32), iv (2 : Int32), iv (1 : Int32), iv c1] [(.int (c1.toInt8.toInt32)), (.int (1 : Int32)), (.ref r2)])) t → Steps p.tables e below (s₁.setTop (entryFrame m #[(.ref r0), (.int (0 : Int32)), (.ref r2), (.int (0 : Int32)), (.int (2 : Int32))] 7)) t := by
    intro t kt
    refine pre8 _ ?_
    show Steps p.tables e below (T5.setTop (mkF m 20 #[rv r0, iv (1 : Int32), rv r2, iv (1 : Int32), iv (2 : Int32), iv (1 : Int32), iv c1] [(.int (255 : Int32)), (.int c1)])) _
    refine XS.icmpYes X5.here hx rfl (pc0 := 20) (pc' := 26) rfl (hb hby d6_20) rfl (flt hc20_7).2.2.2 (by decide) (by decide) ?_
    show Steps p.tables e below (T5.setTop (mkF m 26 #[rv r0, iv (1 : Int32), rv r2, iv (1 : Int32), iv (2 : Int32), iv (1 : Int32), iv c1] [])) _
    refine XS.aloadN X5.here hx rfl (hb hby d6_26) rfl rfl ?_
    show Steps p.tables e below (T5.setTop (mkF m 27 #[rv r0, iv (1 : Int32), rv r2, iv (1 : Int32), iv (2 : Int32), iv (1 : Int32), iv c1] [(.ref r2)])) _
    refine XS.iloadN X5.here hx rfl (hb hby d6_27) rfl ?_
    show Steps p.tables e below (T5.setTop (mkF m 28 #[rv r0, iv (1 : Int32), rv r2, iv (1 : Int32), iv (2 : Int32), iv (1 : Int32), iv c1] [(.int (1 : Int32)), (.ref r2)])) _
    refine XS.iload X5.here hx rfl (hb hby d6_28) rfl ?_
    show Steps p.tables e below (T5.setTop (mkF m 30 #[rv r0, iv (1 : Int32), rv r2, iv (1 : Int32), iv (2 : Int32), iv (1 : Int32), iv c1] [(.int c1), (.int (1 : Int32)), (.ref r2)])) _
    refine XS.i2b X5.here hx rfl (hb hby d6_30) rfl ?_
    exact kt
  obtain ⟨cl10, Ar10, q10, S10, M10, H10, G10⟩ := id V5
  have hin10 : ¬ ((1 : Int32) < 0 ∨ cl10.slots.size ≤ ((1 : Int32)).toNatClampNeg) := inb_of S10 ⟨by decide, by decide⟩
  obtain ⟨T10, h10, X10, e10, W10, st10⟩ := stB X5 hx hZ e5 Ar10 (j := (1 : Int32)) hin10 (g := (mkF m 31 #[rv r0, iv (1 : Int32), rv r2, iv (1 : Int32), iv (2 : Int32), iv (1 : Int32), iv c1] [(.int (c1.toInt8.toInt32)), (.int (1 : Int32)), (.ref r2)])) rfl rfl (hb hby d6_31)
  have nn10 : nar .byte (c1.toInt8.toInt32) = (c1.toInt8.toInt32) := (own_nb _)
  rw [nn10] at W10
  have V10 : Arv Z h10 r2 kb .byte (2 : Int32) [(.int (c0.toInt8.toInt32)), (.int (c1.toInt8.toInt32))] (.int (0 : Int32)) := Arv.set Ar10 q10 S10 M10 H10 G10 (own_fb nn10) W10 1 rfl (Nat.le_of_ble_eq_true rfl)
  have K10 : Keep h0 h10 [r2] := K5.wr W10 (Or.inl (List.mem_of_getElem? (i := 0) rfl))
  have N10 := Fr.snoc X10 N5 g_r2
  have pre11 : ∀ t, Steps p.tables e below (T10.setTop (mkF m 46 #[rv r0, iv (2 : Int32), rv r2, iv (2 : Int32), iv (2 : Int32), iv (2 : Int32), iv c1] [(.int (2 : Int32))])) t → Steps p.tables e below (s₁.setTop (entryFrame m #[(.ref r0), (.int (0 : Int32)), (.ref r2), (.int (0 : Int32)), (.int (2 : Int32))] 7)) t := by
    intro t kt
    refine pre9 _ ?_
    show Steps p.tables e below (T5.setTop (mkF m 31 #[rv r0, iv (1 : Int32), rv r2, iv (1 : Int32), iv (2 : Int32), iv (1 : Int32), iv c1] [(.int (c1.toInt8.toInt32)), (.int (1 : Int32)), (.ref r2)])) _
    refine st10 _ ?_
    show Steps p.tables e below (T10.setTop (mkF m 32 #[rv r0, iv (1 : Int32), rv r2, iv (1 : Int32), iv (2 : Int32), iv (1 : Int32), iv c1] [])) _
    refine XS.iinc X10.here hx rfl (hb hby d6_32) rfl (l' := #[rv r0, iv ((1 : Int32) + (1 : Int32)), rv r2, iv (1 : Int32), iv (2 : Int32), iv (1 : Int32), iv c1]) rfl ?_
    show Steps p.tables e below (T10.setTop (mkF m 35 #[rv r0, iv ((1 : Int32) + (1 : Int32)), rv r2, iv (1 : Int32), iv (2 : Int32), iv (1 : Int32), iv c1] [])) _
    rw [show ((1 : Int32) + (1 : Int32)) = (2 : Int32) from (by decide)]
    show Steps p.tables e below (T10.setTop (mkF m 35 #[rv r0, iv (2 : Int32), rv r2, iv (1 : Int32), iv (2 : Int32), iv (1 : Int32), iv c1] [])) _
    refine XS.iinc X10.here hx rfl (hb hby d6_35) rfl (l' := #[rv r0, iv (2 : Int32), rv r2, iv ((1 : Int32) + (1 : Int32)), iv (2 : Int32), iv (1 : Int32), iv c1]) rfl ?_
    show Steps p.tables e below (T10.setTop (mkF m 38 #[rv r0, iv (2 : Int32), rv r2, iv ((1 : Int32) + (1 : Int32)), iv (2 : Int32), iv (1 : Int32), iv c1] [])) _
    rw [show ((1 : Int32) + (1 : Int32)) = (2 : Int32) from (by decide)]
    show Steps p.tables e below (T10.setTop (mkF m 38 #[rv r0, iv (2 : Int32), rv r2, iv (2 : Int32), iv (2 : Int32), iv (1 : Int32), iv c1] [])) _
    refine XS.iinc X10.here hx rfl (hb hby d6_38) rfl (l' := #[rv r0, iv (2 : Int32), rv r2, iv (2 : Int32), iv (2 : Int32), iv ((1 : Int32) + (1 : Int32)), iv c1]) rfl ?_
    show Steps p.tables e below (T10.setTop (mkF m 41 #[rv r0, iv (2 : Int32), rv r2, iv (2 : Int32), iv (2 : Int32), iv ((1 : Int32) + (1 : Int32)), iv c1] [])) _
    rw [show ((1 : Int32) + (1 : Int32)) = (2 : Int32) from (by decide)]
    show Steps p.tables e below (T10.setTop (mkF m 41 #[rv r0, iv (2 : Int32), rv r2, iv (2 : Int32), iv (2 : Int32), iv (2 : Int32), iv c1] [])) _
    refine XS.goto X10.here hx rfl (pc0 := 41) (pc' := 3) rfl (hb hby d6_41) (by decide) (by decide) ?_
    show Steps p.tables e below (T10.setTop (mkF m 3 #[rv r0, iv (2 : Int32), rv r2, iv (2 : Int32), iv (2 : Int32), iv (2 : Int32), iv c1] [])) _
    refine XS.iload X10.here hx rfl (hb hby d6_3) rfl ?_
    show Steps p.tables e below (T10.setTop (mkF m 5 #[rv r0, iv (2 : Int32), rv r2, iv (2 : Int32), iv (2 : Int32), iv (2 : Int32), iv c1] [(.int (2 : Int32))])) _
    refine XS.iload X10.here hx rfl (hb hby d6_5) rfl ?_
    show Steps p.tables e below (T10.setTop (mkF m 7 #[rv r0, iv (2 : Int32), rv r2, iv (2 : Int32), iv (2 : Int32), iv (2 : Int32), iv c1] [(.int (2 : Int32)), (.int (2 : Int32))])) _
    refine XS.icmpYes X10.here hx rfl (pc0 := 7) (pc' := 44) rfl (hb hby d6_7) rfl (flt (by decide)).2.1 (by decide) (by decide) ?_
    show Steps p.tables e below (T10.setTop (mkF m 44 #[rv r0, iv (2 : Int32), rv r2, iv (2 : Int32), iv (2 : Int32), iv (2 : Int32), iv c1] [])) _
    refine XS.iload X10.here hx rfl (hb hby d6_44) rfl ?_
    exact kt
  obtain ⟨fs, hr, hrun, hended, hW, hsame⟩ := X10.leave (v := some (.int (2 : Int32))) (fun h => by rw [Bd.returns] at h; cases h)
  refine ⟨_, _, pre11 _ ?_, hrun, hended, _, _, rfl, ?_, ⟨_, rfl⟩, hW, hsame.mono (by decide) (by decide)⟩
  · show Steps p.tables e below (T10.setTop (mkF m 46 #[rv r0, iv (2 : Int32), rv r2, iv (2 : Int32), iv (2 : Int32), iv (2 : Int32), iv c1] [(.int (2 : Int32))])) _
    exact retI X10 hx Bd.returns (hb hby d6_46) hr
  · show Q6 Z r0 r2 kc kb c0 c1 h0 n0 _ T10.heap _
    rw [e10]
    exact ⟨rfl, N10, K10, V10⟩
theorem d5_0 : decode jdk_52_method_16_code 0 = .ok (.iload_n 2, 1) := by decide +kernel
theorem d5_1 : decode jdk_52_method_16_code 1 = .ok (.newarray .byte, 2) := by decide +kernel
theorem d5_3 : decode jdk_52_method_16_code 3 = .ok (.astore_n 3, 1) := by decide +kernel
theorem d5_4 : decode jdk_52_method_16_code 4 = .ok (.aload_n 0, 1) := by decide +kernel
theorem d5_5 : decode jdk_52_method_16_code 5 = .ok (.iload_n 1, 1) := by decide +kernel
theorem d5_6 : decode jdk_52_method_16_code 6 = .ok (.aload_n 3, 1) := by decide +kernel
theorem d5_7 : decode jdk_52_method_16_code 7 = .ok (.iconst 0, 1) := by decide +kernel
theorem d5_8 : decode jdk_52_method_16_code 8 = .ok (.iload_n 2, 1) := by decide +kernel
theorem pd6 : parseMethodDescriptor "([CI[BII)I" = some ⟨[(.array .char), .int, (.array .byte), .int, .int], some .int⟩ := by decide +kernel
theorem d5_9 : decode jdk_52_method_16_code 9 = .ok (.invokestatic 115, 3) := by decide +kernel
theorem d5_12 : decode jdk_52_method_16_code 12 = .ok (.istore 4, 2) := by decide +kernel
theorem d5_14 : decode jdk_52_method_16_code 14 = .ok (.iload 4, 2) := by decide +kernel
theorem d5_16 : decode jdk_52_method_16_code 16 = .ok (.iload_n 2, 1) := by decide +kernel
theorem d5_17 : decode jdk_52_method_16_code 17 = .ok (.if_icmp .eq 40, 3) := by decide +kernel
theorem d5_57 : decode jdk_52_method_16_code 57 = .ok (.aload_n 3, 1) := by decide +kernel
theorem d5_58 : decode jdk_52_method_16_code 58 = .ok (.areturn, 1) := by decide +kernel
theorem ef_5 (m : MethodId) (x0 : Addr) (x1 : Int32) (x2 : Int32) : entryFrame m #[(.ref x0), (.int x1), (.int x2)] 6 = mkF m 0 #[.val (.ref x0), .val (.int x1), .val (.int x2), .unset, .unset, .unset] [] := by first | (simp [entryFrame, mkF, argsToLocals, Value.category]; done) | rfl
def Q5 (Z : State) (r0 : Addr) (kc : ClassId) (c0 : Int32) (c1 : Int32) (h0 : Heap) (n0 : Nat) (v : Option Value) (h : Heap) (L : List Loc) : Prop := ∃ y k, v = some (.ref y) ∧ Fr n0 L ∧ Keep h0 h [] ∧ h0.size ≤ y ∧ Arv Z h y k .byte (2 : Int32) [(.int (c0.toInt8.toInt32)), (.int (c1.toInt8.toInt32))] (.int (0 : Int32))
set_option maxRecDepth 65536 in
set_option maxHeartbeats 40000000 in
theorem rm5 (l : Launch) (Z : State) (a0 : Array Value) (hw : ∀ d ∈ tables_1, d.before a0 Z = true) (ws : List Jvm.Cond) (r0 : Addr) (kc : ClassId) (c0 : Int32) (c1 : Int32) (h0 : Heap) (n0 : Nat) (Z0 : n0 ≤ h0.size) (V_r0 : Arv Z h0 r0 kc .char (2 : Int32) [(.int c0), (.int c1)] (.int (0 : Int32))) (h255_0 : ¬ ((255 : Int32) < c0)) (h255_1 : ¬ ((255 : Int32) < c1)) :
    MetFree l (⟨"java/lang/StringUTF16", "compress", "([CII)[B"⟩ : MethodName) (head1 (Jvm.Cond.code (⟨"java/lang/StringUTF16", "compress", "([CII)[B"⟩ : MethodName) jdk_52_method_16_code 6 (some (.array .byte)) :: ws) ({ frames := 1, cells := 1, slots := 2, locals := 18 } : Room)) (fun a U => a = #[(.ref r0), (.int (0 : Int32)), (.int (2 : Int32))] ∧ Z.Warmed39 U.vm ∧ U.heap = h0) (fun _ _ _ _ _ => True) (fun _ U o U' => ∃ v L, o = .returned v ∧ Q5 Z r0 kc c0 c1 h0 n0 v U'.heap L ∧ FrameEnd U o U' L ({ frames := 1, cells := 1, slots := 2, locals := 18 } : Room).cells ({ frames := 1, cells := 1, slots := 2, locals := 18 } : Room).slots) := by
  refine MetFree.of_bodySF (plainFor_of_name pn5) hisR ?_
  intro p e s m args below meth c s₁ Bd hml0 hP hK
  obtain ⟨rfl, hZ, hh⟩ := hP
  have hx := Bd.exec
  have hby := Bd.bytes
  have hml : c.maxLocals = 6 := hml0
  have hown : s.vm.findClass "java/lang/StringUTF16" = some m.cls := findClass_of_methodNamed Bd.named
  have hnm := (name_of_methodNamed Bd.named Bd.method).1
  have X0 : Stand p l e ({ frames := 1, cells := 1, slots := 2, locals := 18 } : Room) s m #[(.ref r0), (.int (0 : Int32)), (.int (2 : Int32))] below meth c s₁ [] 0 0 := Stand.of_body Bd
  have e0 : s₁.heap = h0 := by rw [← hh, Bd.state]; rfl
  have N0 := Fr.nil n0
  have pre0 : ∀ t, Steps p.tables e below (s₁.setTop (mkF m 0 #[rv r0, iv (0 : Int32), iv (2 : Int32), .unset, .unset, .unset] [])) t → Steps p.tables e below (s₁.setTop (entryFrame m #[(.ref r0), (.int (0 : Int32)), (.int (2 : Int32))] 6)) t := fun t k => castTop (ef_5 m r0 (0 : Int32) (2 : Int32)) k
  have pre1 : ∀ t, Steps p.tables e below (s₁.setTop (mkF m 1 #[rv r0, iv (0 : Int32), iv (2 : Int32), .unset, .unset, .unset] [(.int (2 : Int32))])) t → Steps p.tables e below (s₁.setTop (entryFrame m #[(.ref r0), (.int (0 : Int32)), (.int (2 : Int32))] 6)) t := by
    intro t kt
    refine pre0 _ ?_
    show Steps p.tables e below (s₁.setTop (mkF m 0 #[rv r0, iv (0 : Int32), iv (2 : Int32), .unset, .unset, .unset] [])) _
    refine XS.iloadN X0.here hx rfl (hb hby d5_0) rfl ?_
    exact kt
  obtain ⟨T2, h2, k2, X2, e2, E2, A2, Ex2, st2⟩ := newPE X0 hx hZ (hw _ (List.mem_of_getElem? (i := 23) rfl)) e0 (g := (mkF m 1 #[rv r0, iv (0 : Int32), iv (2 : Int32), .unset, .unset, .unset] [(.int (2 : Int32))])) rfl (hb hby d5_1) rfl (by decide) (cap := 2) (by decide) (by decide) (by decide) (by decide) (ad := "[B") rfl
  obtain ⟨b2, g2⟩ : ∃ z, z = h0.size := ⟨_, rfl⟩
  rw [← g2] at A2 Ex2 st2
  have g_b2 : n0 ≤ b2 := Nat.le_trans (Nat.le_trans Z0 (Keep.refl h0 []).1) (Nat.le_of_eq g2.symm)
  have sz_b2 : h0.size ≤ b2 := Nat.le_trans (Keep.refl h0 []).1 (Nat.le_of_eq g2.symm)
  have V_b2 : Arv Z h2 b2 k2 .byte (2 : Int32) [(.int (0 : Int32)), (.int (0 : Int32))] (.int (0 : Int32)) := (Arv.new A2 (by decide)).pad (pad_rep [] (.int (0 : Int32)) 2)
  have K2 : Keep h0 h2 [] := (Keep.refl h0 []).ext E2
  have pre3 : ∀ t, Steps p.tables e below (T2.setTop (mkF m 9 #[rv r0, iv (0 : Int32), iv (2 : Int32), rv b2, .unset, .unset] [(.int (2 : Int32)), (.int (0 : Int32)), (.ref b2), (.int (0 : Int32)), (.ref r0)])) t → Steps p.tables e below (s₁.setTop (entryFrame m #[(.ref r0), (.int (0 : Int32)), (.int (2 : Int32))] 6)) t := by
    intro t kt
    refine pre1 _ ?_
    show Steps p.tables e below (s₁.setTop (mkF m 1 #[rv r0, iv (0 : Int32), iv (2 : Int32), .unset, .unset, .unset] [(.int (2 : Int32))])) _
    refine st2 _ ?_
    show Steps p.tables e below (T2.setTop (mkF m 3 #[rv r0, iv (0 : Int32), iv (2 : Int32), .unset, .unset, .unset] [(.ref b2)])) _
    refine XS.astoreN X2.here hx rfl (hb hby d5_3) rfl rfl (l' := #[rv r0, iv (0 : Int32), iv (2 : Int32), rv b2, .unset, .unset]) rfl ?_
    show Steps p.tables e below (T2.setTop (mkF m 4 #[rv r0, iv (0 : Int32), iv (2 : Int32), rv b2, .unset, .unset] [])) _
    refine XS.aloadN X2.here hx rfl (hb hby d5_4) rfl rfl ?_
    show Steps p.tables e below (T2.setTop (mkF m 5 #[rv r0, iv (0 : Int32), iv (2 : Int32), rv b2, .unset, .unset] [(.ref r0)])) _
    refine XS.iloadN X2.here hx rfl (hb hby d5_5) rfl ?_
    show Steps p.tables e below (T2.setTop (mkF m 6 #[rv r0, iv (0 : Int32), iv (2 : Int32), rv b2, .unset, .unset] [(.int (0 : Int32)), (.ref r0)])) _
    refine XS.aloadN X2.here hx rfl (hb hby d5_6) rfl rfl ?_
    show Steps p.tables e below (T2.setTop (mkF m 7 #[rv r0, iv (0 : Int32), iv (2 : Int32), rv b2, .unset, .unset] [(.ref b2), (.int (0 : Int32)), (.ref r0)])) _
    refine XS.iconst X2.here hx rfl (hb hby d5_7) ?_
    show Steps p.tables e below (T2.setTop (mkF m 8 #[rv r0, iv (0 : Int32), iv (2 : Int32), rv b2, .unset, .unset] [(.int (0 : Int32)), (.ref b2), (.int (0 : Int32)), (.ref r0)])) _
    refine XS.iloadN X2.here hx rfl (hb hby d5_8) rfl ?_
    exact kt
  obtain ⟨_, _, ⟨T4, L4, k4, n4⟩, -, X4, ⟨Lc4, hQ4, l4, y4, z4⟩, st4⟩ := Jvm.LawKit.callS X2 hx (y := (⟨"java/lang/StringUTF16", "compress", "([CI[BII)I"⟩ : MethodName)) hown (mvT hZ (hw _ (List.mem_of_getElem? (i := 24) rfl))) (mvT hZ (hw _ (List.mem_of_getElem? (i := 25) rfl))) (mvT hZ (hw _ (List.mem_of_getElem? (i := 21) rfl))) (mvT hZ (hw _ (List.mem_of_getElem? (i := 26) rfl))) (by decide) (backOf (W := 0) (rm6 l Z a0 hw [] r0 b2 kc k2 c0 c1 h2 n0 (Nat.le_trans Z0 K2.1) (V_r0.ext E2) V_b2 g_b2 h255_0 h255_1 (Nat.ne_of_lt (Nat.lt_of_lt_of_le V_r0.lt (Nat.le_of_eq g2.symm)))) hZ (hw _ (List.mem_of_getElem? (i := 26) rfl)) (hw _ (List.mem_of_getElem? (i := 21) rfl)) (by decide) (by decide)) (g := (mkF m 9 #[rv r0, iv (0 : Int32), iv (2 : Int32), rv b2, .unset, .unset] [(.int (2 : Int32)), (.int (0 : Int32)), (.ref b2), (.int (0 : Int32)), (.ref r0)])) rfl (by rw [hml]; rfl) (argsL := [(.ref r0), (.int (0 : Int32)), (.ref b2), (.int (0 : Int32)), (.int (2 : Int32))]) (rest := []) (lenOf pd6 rfl) rfl (by show 2 * 0 + _ ≤ _; exact Nat.le_of_eq rfl) (hb hby d5_9) (fun _ _ => ⟨rfl, e2, (by decide : 1 + 0 ≤ _), (by decide : 2 + 0 ≤ _)⟩)
  dsimp only [Pt.U, Pt.locs, Pt.cells, Pt.slots] at X4 l4 y4 z4 st4 hQ4
  subst l4 y4 z4
  obtain ⟨rfl, N4q, Kc4, Vy4⟩ := hQ4
  have N4 := Fr.app N0 N4q
  have K4 : Keep h0 T4.heap [] := K2.trans Kc4 (allS (Or.inr sz_b2) all0)
  have pre5 : ∀ t, Steps p.tables e below (T4.setTop (mkF m 58 #[rv r0, iv (0 : Int32), iv (2 : Int32), rv b2, iv (2 : Int32), .unset] [(.ref b2)])) t → Steps p.tables e below (s₁.setTop (entryFrame m #[(.ref r0), (.int (0 : Int32)), (.int (2 : Int32))] 6)) t := by
    intro t kt
    refine pre3 _ ?_
    show Steps p.tables e below (T2.setTop (mkF m 9 #[rv r0, iv (0 : Int32), iv (2 : Int32), rv b2, .unset, .unset] [(.int (2 : Int32)), (.int (0 : Int32)), (.ref b2), (.int (0 : Int32)), (.ref r0)])) _
    refine st4 _ ?_
    show Steps p.tables e below (T4.setTop (mkF m 12 #[rv r0, iv (0 : Int32), iv (2 : Int32), rv b2, .unset, .unset] [(.int (2 : Int32))])) _
    refine XS.istore X4.here hx rfl (hb hby d5_12) rfl (l' := #[rv r0, iv (0 : Int32), iv (2 : Int32), rv b2, iv (2 : Int32), .unset]) rfl ?_
    show Steps p.tables e below (T4.setTop (mkF m 14 #[rv r0, iv (0 : Int32), iv (2 : Int32), rv b2, iv (2 : Int32), .unset] [])) _
    refine XS.iload X4.here hx rfl (hb hby d5_14) rfl ?_
    show Steps p.tables e below (T4.setTop (mkF m 16 #[rv r0, iv (0 : Int32), iv (2 : Int32), rv b2, iv (2 : Int32), .unset] [(.int (2 : Int32))])) _
    refine XS.iloadN X4.here hx rfl (hb hby d5_16) rfl ?_
    show Steps p.tables e below (T4.setTop (mkF m 17 #[rv r0, iv (0 : Int32), iv (2 : Int32), rv b2, iv (2 : Int32), .unset] [(.int (2 : Int32)), (.int (2 : Int32))])) _
    refine XS.icmpYes X4.here hx rfl (pc0 := 17) (pc' := 57) rfl (hb hby d5_17) rfl (teq (by decide)).1 (by decide) (by decide) ?_
    show Steps p.tables e below (T4.setTop (mkF m 57 #[rv r0, iv (0 : Int32), iv (2 : Int32), rv b2, iv (2 : Int32), .unset] [])) _
    refine XS.aloadN X4.here hx rfl (hb hby d5_57) rfl rfl ?_
    exact kt
  obtain ⟨fs, hr, hrun, hended, hW, hsame⟩ := X4.leave (v := some (.ref b2)) (fun h => by rw [Bd.returns] at h; cases h)
  refine ⟨_, _, pre5 _ ?_, hrun, hended, _, _, rfl, ?_, ⟨_, rfl⟩, hW, hsame.mono (by decide) (by decide)⟩
  · show Steps p.tables e below (T4.setTop (mkF m 58 #[rv r0, iv (0 : Int32), iv (2 : Int32), rv b2, iv (2 : Int32), .unset] [(.ref b2)])) _
    jvm_step X4.here [X4.here.top, hx, (hb hby d5_58), X4.method', Bd.returns, Value.isRef, FieldType.isReference]
    first | (intro acts; rw [hr _ acts rfl rfl rfl]) | rw [hr _ _ rfl rfl rfl]
    exact Steps.refl _
  · show Q5 Z r0 kc c0 c1 h0 n0 _ T4.heap _
    exact ⟨b2, k2, rfl, N4, K4, sz_b2, Vy4⟩
theorem d7_0 : decode jdk_52_method_15_code 0 = .ok (.iload_n 1, 1) := by decide +kernel
theorem d7_1 : decode jdk_52_method_15_code 1 = .ok (.aload_n 0, 1) := by decide +kernel
theorem d7_2 : decode jdk_52_method_15_code 2 = .ok (.arraylength, 1) := by decide +kernel
theorem d7_3 : decode jdk_52_method_15_code 3 = .ok (.isub, 1) := by decide +kernel
theorem d7_4 : decode jdk_52_method_15_code 4 = .ok (.bipush 31, 2) := by decide +kernel
theorem d7_6 : decode jdk_52_method_15_code 6 = .ok (.iushr, 1) := by decide +kernel
theorem d7_7 : decode jdk_52_method_15_code 7 = .ok (.i2b, 1) := by decide +kernel
theorem d7_8 : decode jdk_52_method_15_code 8 = .ok (.ireturn, 1) := by decide +kernel
theorem ef_7 (m : MethodId) (x0 : Addr) (x1 : Int32) : entryFrame m #[(.ref x0), (.int x1)] 2 = mkF m 0 #[.val (.ref x0), .val (.int x1)] [] := by first | (simp [entryFrame, mkF, argsToLocals, Value.category]; done) | rfl
def Q7 (Z : State) (r0 : Addr) (kb : ClassId) (b0 : Int32) (b1 : Int32) (h0 : Heap) (n0 : Nat) (v : Option Value) (h : Heap) (L : List Loc) : Prop := v = some (.int (0 : Int32)) ∧ Fr n0 L ∧ h = h0
set_option maxRecDepth 65536 in
set_option maxHeartbeats 40000000 in
theorem rm7 (l : Launch) (Z : State) (a0 : Array Value) (hw : ∀ d ∈ tables_1, d.before a0 Z = true) (ws : List Jvm.Cond) (r0 : Addr) (kb : ClassId) (b0 : Int32) (b1 : Int32) (h0 : Heap) (n0 : Nat) (Z0 : n0 ≤ h0.size) (V_r0 : Arv Z h0 r0 kb .byte (2 : Int32) [(.int b0), (.int b1)] (.int (0 : Int32))) :
    MetFree l (⟨"java/lang/StringUTF16", "coderFromArrayLen", "([BI)B"⟩ : MethodName) (head1 (Jvm.Cond.code (⟨"java/lang/StringUTF16", "coderFromArrayLen", "([BI)B"⟩ : MethodName) jdk_52_method_15_code 2 (some .byte) :: ws) ({ frames := 0, cells := 0, slots := 0, locals := 0 } : Room)) (fun a U => a = #[(.ref r0), (.int (2 : Int32))] ∧ Z.Warmed39 U.vm ∧ U.heap = h0) (fun _ _ _ _ _ => True) (fun _ U o U' => ∃ v L, o = .returned v ∧ Q7 Z r0 kb b0 b1 h0 n0 v U'.heap L ∧ FrameEnd U o U' L ({ frames := 0, cells := 0, slots := 0, locals := 0 } : Room).cells ({ frames := 0, cells := 0, slots := 0, locals := 0 } : Room).slots) := by
  refine MetFree.of_bodySF (plainFor_of_name pn5) hisR ?_
  intro p e s m args below meth c s₁ Bd hml0 hP hK
  obtain ⟨rfl, hZ, hh⟩ := hP
  have hx := Bd.exec
  have hby := Bd.bytes
  have hml : c.maxLocals = 2 := hml0
  have hown : s.vm.findClass "java/lang/StringUTF16" = some m.cls := findClass_of_methodNamed Bd.named
  have hnm := (name_of_methodNamed Bd.named Bd.method).1
  have X0 : Stand p l e ({ frames := 0, cells := 0, slots := 0, locals := 0 } : Room) s m #[(.ref r0), (.int (2 : Int32))] below meth c s₁ [] 0 0 := Stand.of_body Bd
  have e0 : s₁.heap = h0 := by rw [← hh, Bd.state]; rfl
  have N0 := Fr.nil n0
  have pre0 : ∀ t, Steps p.tables e below (s₁.setTop (mkF m 0 #[rv r0, iv (2 : Int32)] [])) t → Steps p.tables e below (s₁.setTop (entryFrame m #[(.ref r0), (.int (2 : Int32))] 2)) t := fun t k => castTop (ef_7 m r0 (2 : Int32)) k
  obtain ⟨cl1, Ar1, -, S1, M1, -, -⟩ := id V_r0
  have pre2 : ∀ t, Steps p.tables e below (s₁.setTop (mkF m 8 #[rv r0, iv (2 : Int32)] [(.int (0 : Int32))])) t → Steps p.tables e below (s₁.setTop (entryFrame m #[(.ref r0), (.int (2 : Int32))] 2)) t := by
    intro t kt
    refine pre0 _ ?_
    show Steps p.tables e below (s₁.setTop (mkF m 0 #[rv r0, iv (2 : Int32)] [])) _
    refine XS.iloadN X0.here hx rfl (hb hby d7_0) rfl ?_
    show Steps p.tables e below (s₁.setTop (mkF m 1 #[rv r0, iv (2 : Int32)] [(.int (2 : Int32))])) _
    refine XS.aloadN X0.here hx rfl (hb hby d7_1) rfl rfl ?_
    show Steps p.tables e below (s₁.setTop (mkF m 2 #[rv r0, iv (2 : Int32)] [(.ref r0), (.int (2 : Int32))])) _
    refine X0.arraylength hx (by rw [e0]; exact Ar1.1) (State.isArrayOf_alike hZ.alike Ar1.2.1) (g := (mkF m 2 #[rv r0, iv (2 : Int32)] [(.ref r0), (.int (2 : Int32))])) rfl rfl (hb hby d7_2) _ ?_
    rw [len_of S1 M1]
    show Steps p.tables e below (s₁.setTop (mkF m 3 #[rv r0, iv (2 : Int32)] [(.int (2 : Int32)), (.int (2 : Int32))])) _
    refine XS.isub X0.here hx rfl (hb hby d7_3) rfl ?_
    show Steps p.tables e below (s₁.setTop (mkF m 4 #[rv r0, iv (2 : Int32)] [(.int ((2 : Int32) - (2 : Int32)))])) _
    rw [show ((2 : Int32) - (2 : Int32)) = (0 : Int32) from (by decide)]
    show Steps p.tables e below (s₁.setTop (mkF m 4 #[rv r0, iv (2 : Int32)] [(.int (0 : Int32))])) _
    refine XS.bipush X0.here hx rfl (hb hby d7_4) ?_
    show Steps p.tables e below (s₁.setTop (mkF m 6 #[rv r0, iv (2 : Int32)] [(.int (31 : Int32)), (.int (0 : Int32))])) _
    refine XS.iushr X0.here hx rfl (hb hby d7_6) rfl ?_
    show Steps p.tables e below (s₁.setTop (mkF m 7 #[rv r0, iv (2 : Int32)] [(.int (((0 : Int32).toUInt32 >>> ((31 : Int32) &&& 31).toUInt32).toInt32))])) _
    rw [show (((0 : Int32).toUInt32 >>> ((31 : Int32) &&& 31).toUInt32).toInt32) = (0 : Int32) from (by decide)]
    show Steps p.tables e below (s₁.setTop (mkF m 7 #[rv r0, iv (2 : Int32)] [(.int (0 : Int32))])) _
    refine XS.i2b X0.here hx rfl (hb hby d7_7) rfl ?_
    show Steps p.tables e below (s₁.setTop (mkF m 8 #[rv r0, iv (2 : Int32)] [(.int ((0 : Int32).toInt8.toInt32))])) _
    rw [show ((0 : Int32).toInt8.toInt32) = (0 : Int32) from (by decide)]
    exact kt
  obtain ⟨fs, hr, hrun, hended, hW, hsame⟩ := X0.leave (v := some (.int (0 : Int32))) (fun h => by rw [Bd.returns] at h; cases h)
  refine ⟨_, _, pre2 _ ?_, hrun, hended, _, _, rfl, ?_, ⟨_, rfl⟩, hW, hsame.mono (by decide) (by decide)⟩
  · show Steps p.tables e below (s₁.setTop (mkF m 8 #[rv r0, iv (2 : Int32)] [(.int (0 : Int32))])) _
    exact retN X0 hx (t := .byte) Bd.returns (by simp) (hb hby d7_8) hr
  · show Q7 Z r0 kb b0 b1 h0 n0 _ s₁.heap _
    rw [e0]
    exact ⟨rfl, N0, rfl⟩
theorem d3_0 : decode jdk_42_method_149_code 0 = .ok (.aload_n 0, 1) := by decide +kernel
theorem d3_1 : decode jdk_42_method_149_code 1 = .ok (.invokespecial 1, 3) := by decide +kernel
theorem d3_4 : decode jdk_42_method_149_code 4 = .ok (.iload_n 3, 1) := by decide +kernel
theorem d3_5 : decode jdk_42_method_149_code 5 = .ok (.ifCond .ne 22, 3) := by decide +kernel
theorem d3_27 : decode jdk_42_method_149_code 27 = .ok (.getstatic 38, 3) := by decide +kernel
theorem d3_30 : decode jdk_42_method_149_code 30 = .ok (.ifCond .eq 28, 3) := by decide +kernel
theorem d3_33 : decode jdk_42_method_149_code 33 = .ok (.aload_n 1, 1) := by decide +kernel
theorem d3_34 : decode jdk_42_method_149_code 34 = .ok (.iload_n 2, 1) := by decide +kernel
theorem d3_35 : decode jdk_42_method_149_code 35 = .ok (.iload_n 3, 1) := by decide +kernel
theorem pd7 : parseMethodDescriptor "([CII)[B" = some ⟨[(.array .char), .int, .int], some (.array .byte)⟩ := by decide +kernel
theorem d3_36 : decode jdk_42_method_149_code 36 = .ok (.invokestatic 177, 3) := by decide +kernel
theorem d3_39 : decode jdk_42_method_149_code 39 = .ok (.astore 5, 2) := by decide +kernel
theorem d3_41 : decode jdk_42_method_149_code 41 = .ok (.aload_n 0, 1) := by decide +kernel
theorem d3_42 : decode jdk_42_method_149_code 42 = .ok (.aload 5, 2) := by decide +kernel
theorem d3_44 : decode jdk_42_method_149_code 44 = .ok (.iload_n 3, 1) := by decide +kernel
theorem pd8 : parseMethodDescriptor "([BI)B" = some ⟨[(.array .byte), .int], some .byte⟩ := by decide +kernel
theorem d3_45 : decode jdk_42_method_149_code 45 = .ok (.invokestatic 47, 3) := by decide +kernel
theorem d3_48 : decode jdk_42_method_149_code 48 = .ok (.putfield 15, 3) := by decide +kernel
theorem d3_51 : decode jdk_42_method_149_code 51 = .ok (.aload_n 0, 1) := by decide +kernel
theorem d3_52 : decode jdk_42_method_149_code 52 = .ok (.aload 5, 2) := by decide +kernel
theorem d3_54 : decode jdk_42_method_149_code 54 = .ok (.putfield 9, 3) := by decide +kernel
theorem d3_57 : decode jdk_42_method_149_code 57 = .ok (.return_, 1) := by decide +kernel
theorem ef_3 (m : MethodId) (x0 : Addr) (x1 : Addr) (x2 : Int32) (x3 : Int32) : entryFrame m #[(.ref x0), (.ref x1), (.int x2), (.int x3), .null] 6 = mkF m 0 #[.val (.ref x0), .val (.ref x1), .val (.int x2), .val (.int x3), .val .null, .unset] [] := by first | (simp [entryFrame, mkF, argsToLocals, Value.category]; done) | rfl
def Q3 (Z : State) (r0 : Addr) (r1 : Addr) (kc : ClassId) (c0 : Int32) (c1 : Int32) (cs : Int32) (h0 : Heap) (n0 : Nat) (v : Option Value) (h : Heap) (L : List Loc) : Prop := ∃ y k, v = none ∧ Fr n0 L ∧ Keep h0 h [r0] ∧ h0.size ≤ y ∧ Fld Z h r0 "java/lang/String" "value" "[B" (.ref y) ∧ Fld Z h r0 "java/lang/String" "coder" "B" (.int (0 : Int32)) ∧ Arv Z h y k .byte (2 : Int32) [(.int (c0.toInt8.toInt32)), (.int (c1.toInt8.toInt32))] (.int (0 : Int32))
set_option maxRecDepth 65536 in
set_option maxHeartbeats 40000000 in
theorem rm3 (l : Launch) (Z : State) (a0 : Array Value) (hw : ∀ d ∈ tables_1, d.before a0 Z = true) (ws : List Jvm.Cond) (r0 : Addr) (r1 : Addr) (kc : ClassId) (c0 : Int32) (c1 : Int32) (cs : Int32) (h0 : Heap) (n0 : Nat) (Z0 : n0 ≤ h0.size) (F_value_r0 : Fld Z h0 r0 "java/lang/String" "value" "[B" .null) (F_coder_r0 : Fld Z h0 r0 "java/lang/String" "coder" "B" (.int (0 : Int32))) (E_r0 : Exa Z h0 r0 "java/lang/String") (g_r0 : n0 ≤ r0) (O0 : Old Z n0 h0) (S_cs : Sta Z Z.heap "java/lang/String" "COMPACT_STRINGS" "Z" (.int cs)) (hcs : ¬ (cs = (0 : Int32))) (V_r1 : Arv Z h0 r1 kc .char (2 : Int32) [(.int c0), (.int c1)] (.int (0 : Int32))) (h255_0 : ¬ ((255 : Int32) < c0)) (h255_1 : ¬ ((255 : Int32) < c1)) (hne : r0 ≠ r1) :
    MetFree l (⟨"java/lang/String", "<init>", "([CIILjava/lang/Void;)V"⟩ : MethodName) (head1 (Jvm.Cond.code (⟨"java/lang/String", "<init>", "([CIILjava/lang/Void;)V"⟩ : MethodName) jdk_42_method_149_code 6 none :: ws) ({ frames := 2, cells := 1, slots := 2, locals := 36 } : Room)) (fun a U => a = #[(.ref r0), (.ref r1), (.int (0 : Int32)), (.int (2 : Int32)), .null] ∧ Z.Warmed39 U.vm ∧ U.heap = h0) (fun _ _ _ _ _ => True) (fun _ U o U' => ∃ v L, o = .returned v ∧ Q3 Z r0 r1 kc c0 c1 cs h0 n0 v U'.heap L ∧ FrameEnd U o U' L ({ frames := 2, cells := 1, slots := 2, locals := 36 } : Room).cells ({ frames := 2, cells := 1, slots := 2, locals := 36 } : Room).slots) := by
  refine MetFree.of_bodySF (plainFor_of_name pn1) hisR ?_
  intro p e s m args below meth c s₁ Bd hml0 hP hK
  obtain ⟨rfl, hZ, hh⟩ := hP
  have hx := Bd.exec
  have hby := Bd.bytes
  have hml : c.maxLocals = 6 := hml0
  have hown : s.vm.findClass "java/lang/String" = some m.cls := findClass_of_methodNamed Bd.named
  have hnm := (name_of_methodNamed Bd.named Bd.method).1
  have X0 : Stand p l e ({ frames := 2, cells := 1, slots := 2, locals := 36 } : Room) s m #[(.ref r0), (.ref r1), (.int (0 : Int32)), (.int (2 : Int32)), .null] below meth c s₁ [] 0 0 := Stand.of_body Bd
  have e0 : s₁.heap = h0 := by rw [← hh, Bd.state]; rfl
  have N0 := Fr.nil n0
  have pre0 : ∀ t, Steps p.tables e below (s₁.setTop (mkF m 0 #[rv r0, rv r1, iv (0 : Int32), iv (2 : Int32), .val .null, .unset] [])) t → Steps p.tables e below (s₁.setTop (entryFrame m #[(.ref r0), (.ref r1), (.int (0 : Int32)), (.int (2 : Int32)), .null] 6)) t := fun t k => castTop (ef_3 m r0 r1 (0 : Int32) (2 : Int32)) k
  have pre1 : ∀ t, Steps p.tables e below (s₁.setTop (mkF m 1 #[rv r0, rv r1, iv (0 : Int32), iv (2 : Int32), .val .null, .unset] [(.ref r0)])) t → Steps p.tables e below (s₁.setTop (entryFrame m #[(.ref r0), (.ref r1), (.int (0 : Int32)), (.int (2 : Int32)), .null] 6)) t := by
    intro t kt
    refine pre0 _ ?_
    show Steps p.tables e below (s₁.setTop (mkF m 0 #[rv r0, rv r1, iv (0 : Int32), iv (2 : Int32), .val .null, .unset] [])) _
    refine XS.aloadN X0.here hx rfl (hb hby d3_0) rfl rfl ?_
    exact kt
  obtain ⟨T2, X2, e2, st2⟩ := initO X0 hx hZ hown (hw _ (List.mem_of_getElem? (i := 15) rfl)) (hw _ (List.mem_of_getElem? (i := 16) rfl)) (hw _ (List.mem_of_getElem? (i := 17) rfl)) e0 (g := (mkF m 1 #[rv r0, rv r1, iv (0 : Int32), iv (2 : Int32), .val .null, .unset] [(.ref r0)])) rfl (by rw [hml]; rfl) rfl (hb hby d3_1) (by decide) (W := 0) (by show 2 * 0 + _ ≤ _; exact Nat.le_of_eq rfl) (by decide)
  have pre3 : ∀ t, Steps p.tables e below (T2.setTop (mkF m 27 #[rv r0, rv r1, iv (0 : Int32), iv (2 : Int32), .val .null, .unset] [])) t → Steps p.tables e below (s₁.setTop (entryFrame m #[(.ref r0), (.ref r1), (.int (0 : Int32)), (.int (2 : Int32)), .null] 6)) t := by
    intro t kt
    refine pre1 _ ?_
    show Steps p.tables e below (s₁.setTop (mkF m 1 #[rv r0, rv r1, iv (0 : Int32), iv (2 : Int32), .val .null, .unset] [(.ref r0)])) _
    refine st2 _ ?_
    show Steps p.tables e below (T2.setTop (mkF m 4 #[rv r0, rv r1, iv (0 : Int32), iv (2 : Int32), .val .null, .unset] [])) _
    refine XS.iloadN X2.here hx rfl (hb hby d3_4) rfl ?_
    show Steps p.tables e below (T2.setTop (mkF m 5 #[rv r0, rv r1, iv (0 : Int32), iv (2 : Int32), .val .null, .unset] [(.int (2 : Int32))])) _
    refine XS.ifYes X2.here hx rfl (pc0 := 5) (pc' := 27) rfl (hb hby d3_5) rfl ((if0 _ _).trans (feq (by decide)).2) (by decide) (by decide) ?_
    exact kt
  obtain ⟨T4, X4, e4, st4⟩ := getS2 X2 hx hZ hown (host := "") (Or.inl (hw _ (List.mem_of_getElem? (i := 18) rfl))) Via.refl e2 (S_cs.ext (O0.keep (Keep.refl h0 [r0]) (allS g_r0 all0)).2) (g := (mkF m 27 #[rv r0, rv r1, iv (0 : Int32), iv (2 : Int32), .val .null, .unset] [])) rfl (hb hby d3_27)
  have pre6 : ∀ t, Steps p.tables e below (T4.setTop (mkF m 30 #[rv r0, rv r1, iv (0 : Int32), iv (2 : Int32), .val .null, .unset] [(.int cs)])) t → Steps p.tables e below (s₁.setTop (entryFrame m #[(.ref r0), (.ref r1), (.int (0 : Int32)), (.int (2 : Int32)), .null] 6)) t := by
    intro t kt
    refine pre3 _ ?_
    show Steps p.tables e below (T2.setTop (mkF m 27 #[rv r0, rv r1, iv (0 : Int32), iv (2 : Int32), .val .null, .unset] [])) _
    refine st4 _ ?_
    exact kt
  have hc30_5 : ¬ (cs = (0 : Int32)) := hcs
  have pre7 : ∀ t, Steps p.tables e below (T4.setTop (mkF m 36 #[rv r0, rv r1, iv (0 : Int32), iv (2 : Int32), .val .null, .unset] [(.int (2 : Int32)), (.int (0 : Int32)), (.ref r1)])) t → Steps p.tables e below (s₁.setTop (entryFrame m #[(.ref r0), (.ref r1), (.int (0 : Int32)), (.int (2 : Int32)), .null] 6)) t := by
    intro t kt
    refine pre6 _ ?_
    show Steps p.tables e below (T4.setTop (mkF m 30 #[rv r0, rv r1, iv (0 : Int32), iv (2 : Int32), .val .null, .unset] [(.int cs)])) _
    refine XS.ifNo X4.here hx rfl (hb hby d3_30) rfl ((if0 _ _).trans (feq hc30_5).1) ?_
    show Steps p.tables e below (T4.setTop (mkF m 33 #[rv r0, rv r1, iv (0 : Int32), iv (2 : Int32), .val .null, .unset] [])) _
    refine XS.aloadN X4.here hx rfl (hb hby d3_33) rfl rfl ?_
    show Steps p.tables e below (T4.setTop (mkF m 34 #[rv r0, rv r1, iv (0 : Int32), iv (2 : Int32), .val .null, .unset] [(.ref r1)])) _
    refine XS.iloadN X4.here hx rfl (hb hby d3_34) rfl ?_
    show Steps p.tables e below (T4.setTop (mkF m 35 #[rv r0, rv r1, iv (0 : Int32), iv (2 : Int32), .val .null, .unset] [(.int (0 : Int32)), (.ref r1)])) _
    refine XS.iloadN X4.here hx rfl (hb hby d3_35) rfl ?_
    exact kt
  obtain ⟨_, _, ⟨T8, L8, k8, n8⟩, -, X8, ⟨Lc8, hQ8, l8, y8, z8⟩, st8⟩ := Jvm.LawKit.callS X4 hx (y := (⟨"java/lang/StringUTF16", "compress", "([CII)[B"⟩ : MethodName)) hown (mvT hZ (hw _ (List.mem_of_getElem? (i := 19) rfl))) (mvT hZ (hw _ (List.mem_of_getElem? (i := 20) rfl))) (mvT hZ (hw _ (List.mem_of_getElem? (i := 21) rfl))) (mvT hZ (hw _ (List.mem_of_getElem? (i := 22) rfl))) (by decide) (backOf (W := 0) (rm5 l Z a0 hw [] r1 kc c0 c1 h0 n0 (Nat.le_trans Z0 (Keep.refl h0 [r0]).1) V_r1 h255_0 h255_1) hZ (hw _ (List.mem_of_getElem? (i := 22) rfl)) (hw _ (List.mem_of_getElem? (i := 21) rfl)) (by decide) (by decide)) (g := (mkF m 36 #[rv r0, rv r1, iv (0 : Int32), iv (2 : Int32), .val .null, .unset] [(.int (2 : Int32)), (.int (0 : Int32)), (.ref r1)])) rfl (by rw [hml]; rfl) (argsL := [(.ref r1), (.int (0 : Int32)), (.int (2 : Int32))]) (rest := []) (lenOf pd7 rfl) rfl (by show 2 * 0 + _ ≤ _; exact Nat.le_of_eq rfl) (hb hby d3_36) (fun _ _ => ⟨rfl, e4, (by decide : 0 + 1 ≤ _), (by decide : 0 + 2 ≤ _)⟩)
  dsimp only [Pt.U, Pt.locs, Pt.cells, Pt.slots] at X8 l8 y8 z8 st8 hQ8
  subst l8 y8 z8
  obtain ⟨y8, ky8, rfl, N8q, Kc8, hy8, Vy8⟩ := hQ8
  have N8 := Fr.app N0 N8q
  have K8 : Keep h0 T8.heap [r0] := (Keep.refl h0 [r0]).trans Kc8 all0
  have g_y8 : n0 ≤ y8 := Nat.le_trans (Nat.le_trans Z0 (Keep.refl h0 [r0]).1) hy8
  have sz_y8 : h0.size ≤ y8 := Nat.le_trans (Keep.refl h0 [r0]).1 hy8
  have ne_8 : r0 ≠ y8 := Nat.ne_of_lt (Nat.lt_of_lt_of_le E_r0.lt hy8)
  have pre9 : ∀ t, Steps p.tables e below (T8.setTop (mkF m 45 #[rv r0, rv r1, iv (0 : Int32), iv (2 : Int32), .val .null, rv y8] [(.int (2 : Int32)), (.ref y8), (.ref r0)])) t → Steps p.tables e below (s₁.setTop (entryFrame m #[(.ref r0), (.ref r1), (.int (0 : Int32)), (.int (2 : Int32)), .null] 6)) t := by
    intro t kt
    refine pre7 _ ?_
    show Steps p.tables e below (T4.setTop (mkF m 36 #[rv r0, rv r1, iv (0 : Int32), iv (2 : Int32), .val .null, .unset] [(.int (2 : Int32)), (.int (0 : Int32)), (.ref r1)])) _
    refine st8 _ ?_
    show Steps p.tables e below (T8.setTop (mkF m 39 #[rv r0, rv r1, iv (0 : Int32), iv (2 : Int32), .val .null, .unset] [(.ref y8)])) _
    refine XS.astore X8.here hx rfl (hb hby d3_39) rfl rfl (l' := #[rv r0, rv r1, iv (0 : Int32), iv (2 : Int32), .val .null, rv y8]) rfl ?_
    show Steps p.tables e below (T8.setTop (mkF m 41 #[rv r0, rv r1, iv (0 : Int32), iv (2 : Int32), .val .null, rv y8] [])) _
    refine XS.aloadN X8.here hx rfl (hb hby d3_41) rfl rfl ?_
    show Steps p.tables e below (T8.setTop (mkF m 42 #[rv r0, rv r1, iv (0 : Int32), iv (2 : Int32), .val .null, rv y8] [(.ref r0)])) _
    refine XS.aload X8.here hx rfl (hb hby d3_42) rfl rfl ?_
    show Steps p.tables e below (T8.setTop (mkF m 44 #[rv r0, rv r1, iv (0 : Int32), iv (2 : Int32), .val .null, rv y8] [(.ref y8), (.ref r0)])) _
    refine XS.iloadN X8.here hx rfl (hb hby d3_44) rfl ?_
    exact kt
  obtain ⟨_, _, ⟨T10, L10, k10, n10⟩, -, X10, ⟨Lc10, hQ10, l10, y10, z10⟩, st10⟩ := Jvm.LawKit.callS X8 hx (y := (⟨"java/lang/StringUTF16", "coderFromArrayLen", "([BI)B"⟩ : MethodName)) hown (mvT hZ (hw _ (List.mem_of_getElem? (i := 27) rfl))) (mvT hZ (hw _ (List.mem_of_getElem? (i := 28) rfl))) (mvT hZ (hw _ (List.mem_of_getElem? (i := 21) rfl))) (mvT hZ (hw _ (List.mem_of_getElem? (i := 29) rfl))) (by decide) (backOf (W := 1) (rm7 l Z a0 hw [] y8 ky8 (c0.toInt8.toInt32) (c1.toInt8.toInt32) T8.heap n0 (Nat.le_trans Z0 K8.1) Vy8) hZ (hw _ (List.mem_of_getElem? (i := 29) rfl)) (hw _ (List.mem_of_getElem? (i := 21) rfl)) (by decide) (by decide)) (g := (mkF m 45 #[rv r0, rv r1, iv (0 : Int32), iv (2 : Int32), .val .null, rv y8] [(.int (2 : Int32)), (.ref y8), (.ref r0)])) rfl (by rw [hml]; rfl) (argsL := [(.ref y8), (.int (2 : Int32))]) (rest := [(.ref r0)]) (lenOf pd8 rfl) rfl (by show 2 * 0 + _ ≤ _; exact Nat.le_of_eq rfl) (hb hby d3_45) (fun _ _ => ⟨rfl, rfl, (by decide : 1 + 0 ≤ _), (by decide : 2 + 0 ≤ _)⟩)
  dsimp only [Pt.U, Pt.locs, Pt.cells, Pt.slots] at X10 l10 y10 z10 st10 hQ10
  subst l10 y10 z10
  obtain ⟨rfl, N10q, hh10⟩ := hQ10
  have N10 := Fr.app N8 N10q
  have pre11 : ∀ t, Steps p.tables e below (T10.setTop (mkF m 48 #[rv r0, rv r1, iv (0 : Int32), iv (2 : Int32), .val .null, rv y8] [(.int (0 : Int32)), (.ref r0)])) t → Steps p.tables e below (s₁.setTop (entryFrame m #[(.ref r0), (.ref r1), (.int (0 : Int32)), (.int (2 : Int32)), .null] 6)) t := by
    intro t kt
    refine pre9 _ ?_
    show Steps p.tables e below (T8.setTop (mkF m 45 #[rv r0, rv r1, iv (0 : Int32), iv (2 : Int32), .val .null, rv y8] [(.int (2 : Int32)), (.ref y8), (.ref r0)])) _
    refine st10 _ ?_
    exact kt
  obtain ⟨T12, h12, X12, e12, W12, st12⟩ := putFN X10 hx hZ hown (hw _ (List.mem_of_getElem? (i := 30) rfl)) Via.refl hh10 (F_coder_r0.keep Kc8 nin0) (E_r0.keep Kc8) (Or.inr ⟨(hw _ (List.mem_of_getElem? (i := 31) rfl)), rfl, hnm⟩) (hw _ (List.mem_of_getElem? (i := 5) rfl)) (ty := .byte) (v' := (.int (0 : Int32))) (by decide) rfl (by decide) (g := (mkF m 48 #[rv r0, rv r1, iv (0 : Int32), iv (2 : Int32), .val .null, rv y8] [(.int (0 : Int32)), (.ref r0)])) rfl rfl (hb hby d3_48)
  have Fw12 : Fld Z h12 r0 "java/lang/String" "coder" "B" (.int (0 : Int32)) := (F_coder_r0.keep Kc8 nin0).same W12
  have K12 : Keep h0 h12 [r0] := K8.wr W12 (Or.inl (List.mem_of_getElem? (i := 0) rfl))
  have N12 := Fr.snoc X12 N10 g_r0
  have pre13 : ∀ t, Steps p.tables e below (T12.setTop (mkF m 54 #[rv r0, rv r1, iv (0 : Int32), iv (2 : Int32), .val .null, rv y8] [(.ref y8), (.ref r0)])) t → Steps p.tables e below (s₁.setTop (entryFrame m #[(.ref r0), (.ref r1), (.int (0 : Int32)), (.int (2 : Int32)), .null] 6)) t := by
    intro t kt
    refine pre11 _ ?_
    show Steps p.tables e below (T10.setTop (mkF m 48 #[rv r0, rv r1, iv (0 : Int32), iv (2 : Int32), .val .null, rv y8] [(.int (0 : Int32)), (.ref r0)])) _
    refine st12 _ ?_
    show Steps p.tables e below (T12.setTop (mkF m 51 #[rv r0, rv r1, iv (0 : Int32), iv (2 : Int32), .val .null, rv y8] [])) _
    refine XS.aloadN X12.here hx rfl (hb hby d3_51) rfl rfl ?_
    show Steps p.tables e below (T12.setTop (mkF m 52 #[rv r0, rv r1, iv (0 : Int32), iv (2 : Int32), .val .null, rv y8] [(.ref r0)])) _
    refine XS.aload X12.here hx rfl (hb hby d3_52) rfl rfl ?_
    exact kt
  obtain ⟨T14, h14, X14, e14, W14, st14⟩ := putF X12 hx hZ hown (host := "") (Or.inl (hw _ (List.mem_of_getElem? (i := 32) rfl))) Via.refl e12 ((F_value_r0.keep Kc8 nin0).other W12 (Or.inr (slot_ne (Or.inr (hw _ (List.mem_of_getElem? (i := 33) rfl))) (Or.inr (hw _ (List.mem_of_getElem? (i := 31) rfl))) (by decide) (t := (.array .byte)) (t' := .byte) (by decide) (by decide)))) ((E_r0.keep Kc8).wr W12) (Or.inr ⟨(hw _ (List.mem_of_getElem? (i := 33) rfl)), rfl, hnm⟩) (hw _ (List.mem_of_getElem? (i := 5) rfl)) (ty := (.array .byte)) (by decide) rfl rfl (g := (mkF m 54 #[rv r0, rv r1, iv (0 : Int32), iv (2 : Int32), .val .null, rv y8] [(.ref y8), (.ref r0)])) rfl rfl (hb hby d3_54)
  have Fw14 : Fld Z h14 r0 "java/lang/String" "value" "[B" (.ref y8) := ((F_value_r0.keep Kc8 nin0).other W12 (Or.inr (slot_ne (Or.inr (hw _ (List.mem_of_getElem? (i := 33) rfl))) (Or.inr (hw _ (List.mem_of_getElem? (i := 31) rfl))) (by decide) (t := (.array .byte)) (t' := .byte) (by decide) (by decide)))).same W14
  have K14 : Keep h0 h14 [r0] := K12.wr W14 (Or.inl (List.mem_of_getElem? (i := 0) rfl))
  have N14 := Fr.snoc X14 N12 g_r0
  have pre15 : ∀ t, Steps p.tables e below (T14.setTop (mkF m 57 #[rv r0, rv r1, iv (0 : Int32), iv (2 : Int32), .val .null, rv y8] [])) t → Steps p.tables e below (s₁.setTop (entryFrame m #[(.ref r0), (.ref r1), (.int (0 : Int32)), (.int (2 : Int32)), .null] 6)) t := by
    intro t kt
    refine pre13 _ ?_
    show Steps p.tables e below (T12.setTop (mkF m 54 #[rv r0, rv r1, iv (0 : Int32), iv (2 : Int32), .val .null, rv y8] [(.ref y8), (.ref r0)])) _
    refine st14 _ ?_
    exact kt
  obtain ⟨fs, hr, hrun, hended, hW, hsame⟩ := X14.leave (v := none) (fun _ => rfl)
  refine ⟨_, _, pre15 _ ?_, hrun, hended, _, _, rfl, ?_, ⟨_, rfl⟩, hW, hsame.mono (by decide) (by decide)⟩
  · show Steps p.tables e below (T14.setTop (mkF m 57 #[rv r0, rv r1, iv (0 : Int32), iv (2 : Int32), .val .null, rv y8] [])) _
    exact X14.returnOut hx Bd.returns (hb hby d3_57) hr
  · show Q3 Z r0 r1 kc c0 c1 cs h0 n0 _ T14.heap _
    rw [e14]
    exact ⟨y8, ky8, rfl, N14, K14, sz_y8, Fw14, (Fw12.other W14 (Or.inr (slot_ne (Or.inr (hw _ (List.mem_of_getElem? (i := 31) rfl))) (Or.inr (hw _ (List.mem_of_getElem? (i := 33) rfl))) (by decide) (t := .byte) (t' := (.array .byte)) (by decide) (by decide)))), ((Vy8.other W12 (Ne.symm ne_8)).other W14 (Ne.symm ne_8))⟩
theorem d2_0 : decode jdk_42_method_3_code 0 = .ok (.aload_n 0, 1) := by decide +kernel
theorem d2_1 : decode jdk_42_method_3_code 1 = .ok (.aload_n 1, 1) := by decide +kernel
theorem d2_2 : decode jdk_42_method_3_code 2 = .ok (.iconst 0, 1) := by decide +kernel
theorem d2_3 : decode jdk_42_method_3_code 3 = .ok (.aload_n 1, 1) := by decide +kernel
theorem d2_4 : decode jdk_42_method_3_code 4 = .ok (.arraylength, 1) := by decide +kernel
theorem d2_5 : decode jdk_42_method_3_code 5 = .ok (.aconst_null, 1) := by decide +kernel
theorem pd9 : parseMethodDescriptor "([CIILjava/lang/Void;)V" = some ⟨[(.array .char), .int, .int, (.object "java/lang/Void")], none⟩ := by decide +kernel
theorem d2_6 : decode jdk_42_method_3_code 6 = .ok (.invokespecial 27, 3) := by decide +kernel
theorem d2_9 : decode jdk_42_method_3_code 9 = .ok (.return_, 1) := by decide +kernel
theorem ef_2 (m : MethodId) (x0 : Addr) (x1 : Addr) : entryFrame m #[(.ref x0), (.ref x1)] 2 = mkF m 0 #[.val (.ref x0), .val (.ref x1)] [] := by first | (simp [entryFrame, mkF, argsToLocals, Value.category]; done) | rfl
def Q2 (Z : State) (r0 : Addr) (r1 : Addr) (kc : ClassId) (c0 : Int32) (c1 : Int32) (cs : Int32) (h0 : Heap) (n0 : Nat) (v : Option Value) (h : Heap) (L : List Loc) : Prop := ∃ y k, v = none ∧ Fr n0 L ∧ Keep h0 h [r0] ∧ h0.size ≤ y ∧ Fld Z h r0 "java/lang/String" "value" "[B" (.ref y) ∧ Fld Z h r0 "java/lang/String" "coder" "B" (.int (0 : Int32)) ∧ Arv Z h y k .byte (2 : Int32) [(.int (c0.toInt8.toInt32)), (.int (c1.toInt8.toInt32))] (.int (0 : Int32))
set_option maxRecDepth 65536 in
set_option maxHeartbeats 40000000 in
theorem rm2 (l : Launch) (Z : State) (a0 : Array Value) (hw : ∀ d ∈ tables_1, d.before a0 Z = true) (ws : List Jvm.Cond) (r0 : Addr) (r1 : Addr) (kc : ClassId) (c0 : Int32) (c1 : Int32) (cs : Int32) (h0 : Heap) (n0 : Nat) (Z0 : n0 ≤ h0.size) (F_value_r0 : Fld Z h0 r0 "java/lang/String" "value" "[B" .null) (F_coder_r0 : Fld Z h0 r0 "java/lang/String" "coder" "B" (.int (0 : Int32))) (E_r0 : Exa Z h0 r0 "java/lang/String") (g_r0 : n0 ≤ r0) (O0 : Old Z n0 h0) (S_cs : Sta Z Z.heap "java/lang/String" "COMPACT_STRINGS" "Z" (.int cs)) (hcs : ¬ (cs = (0 : Int32))) (V_r1 : Arv Z h0 r1 kc .char (2 : Int32) [(.int c0), (.int c1)] (.int (0 : Int32))) (h255_0 : ¬ ((255 : Int32) < c0)) (h255_1 : ¬ ((255 : Int32) < c1)) (hne : r0 ≠ r1) :
    MetFree l (⟨"java/lang/String", "<init>", "([C)V"⟩ : MethodName) (head1 (Jvm.Cond.code (⟨"java/lang/String", "<init>", "([C)V"⟩ : MethodName) jdk_42_method_3_code 2 none :: ws) ({ frames := 3, cells := 1, slots := 2, locals := 53 } : Room)) (fun a U => a = #[(.ref r0), (.ref r1)] ∧ Z.Warmed39 U.vm ∧ U.heap = h0) (fun _ _ _ _ _ => True) (fun _ U o U' => ∃ v L, o = .returned v ∧ Q2 Z r0 r1 kc c0 c1 cs h0 n0 v U'.heap L ∧ FrameEnd U o U' L ({ frames := 3, cells := 1, slots := 2, locals := 53 } : Room).cells ({ frames := 3, cells := 1, slots := 2, locals := 53 } : Room).slots) := by
  refine MetFree.of_bodySF (plainFor_of_name pn1) hisR ?_
  intro p e s m args below meth c s₁ Bd hml0 hP hK
  obtain ⟨rfl, hZ, hh⟩ := hP
  have hx := Bd.exec
  have hby := Bd.bytes
  have hml : c.maxLocals = 2 := hml0
  have hown : s.vm.findClass "java/lang/String" = some m.cls := findClass_of_methodNamed Bd.named
  have hnm := (name_of_methodNamed Bd.named Bd.method).1
  have X0 : Stand p l e ({ frames := 3, cells := 1, slots := 2, locals := 53 } : Room) s m #[(.ref r0), (.ref r1)] below meth c s₁ [] 0 0 := Stand.of_body Bd
  have e0 : s₁.heap = h0 := by rw [← hh, Bd.state]; rfl
  have N0 := Fr.nil n0
  have pre0 : ∀ t, Steps p.tables e below (s₁.setTop (mkF m 0 #[rv r0, rv r1] [])) t → Steps p.tables e below (s₁.setTop (entryFrame m #[(.ref r0), (.ref r1)] 2)) t := fun t k => castTop (ef_2 m r0 r1) k
  obtain ⟨cl1, Ar1, -, S1, M1, -, -⟩ := id V_r1
  have pre2 : ∀ t, Steps p.tables e below (s₁.setTop (mkF m 6 #[rv r0, rv r1] [.null, (.int (2 : Int32)), (.int (0 : Int32)), (.ref r1), (.ref r0)])) t → Steps p.tables e below (s₁.setTop (entryFrame m #[(.ref r0), (.ref r1)] 2)) t := by
    intro t kt
    refine pre0 _ ?_
    show Steps p.tables e below (s₁.setTop (mkF m 0 #[rv r0, rv r1] [])) _
    refine XS.aloadN X0.here hx rfl (hb hby d2_0) rfl rfl ?_
    show Steps p.tables e below (s₁.setTop (mkF m 1 #[rv r0, rv r1] [(.ref r0)])) _
    refine XS.aloadN X0.here hx rfl (hb hby d2_1) rfl rfl ?_
    show Steps p.tables e below (s₁.setTop (mkF m 2 #[rv r0, rv r1] [(.ref r1), (.ref r0)])) _
    refine XS.iconst X0.here hx rfl (hb hby d2_2) ?_
    show Steps p.tables e below (s₁.setTop (mkF m 3 #[rv r0, rv r1] [(.int (0 : Int32)), (.ref r1), (.ref r0)])) _
    refine XS.aloadN X0.here hx rfl (hb hby d2_3) rfl rfl ?_
    show Steps p.tables e below (s₁.setTop (mkF m 4 #[rv r0, rv r1] [(.ref r1), (.int (0 : Int32)), (.ref r1), (.ref r0)])) _
    refine X0.arraylength hx (by rw [e0]; exact Ar1.1) (State.isArrayOf_alike hZ.alike Ar1.2.1) (g := (mkF m 4 #[rv r0, rv r1] [(.ref r1), (.int (0 : Int32)), (.ref r1), (.ref r0)])) rfl rfl (hb hby d2_4) _ ?_
    rw [len_of S1 M1]
    show Steps p.tables e below (s₁.setTop (mkF m 5 #[rv r0, rv r1] [(.int (2 : Int32)), (.int (0 : Int32)), (.ref r1), (.ref r0)])) _
    refine XS.aconstNull X0.here hx rfl (hb hby d2_5) ?_
    exact kt
  obtain ⟨_, _, ⟨T3, L3, k3, n3⟩, -, X3, ⟨Lc3, hQ3, l3, y3, z3⟩, st3⟩ := X0.specialBack hx (y := (⟨"java/lang/String", "<init>", "([CIILjava/lang/Void;)V"⟩ : MethodName)) rfl hown (mvT hZ (hw _ (List.mem_of_getElem? (i := 11) rfl))) (mvT hZ (hw _ (List.mem_of_getElem? (i := 12) rfl))) (mvT hZ (hw _ (List.mem_of_getElem? (i := 14) rfl))) (by decide) (backOf (W := 0) (rm3 l Z a0 hw [] r0 r1 kc c0 c1 cs h0 n0 (Nat.le_trans Z0 (Keep.refl h0 [r0]).1) F_value_r0 F_coder_r0 E_r0 g_r0 (O0.keep (Keep.refl h0 [r0]) (allS g_r0 all0)) S_cs hcs V_r1 h255_0 h255_1 hne) hZ (hw _ (List.mem_of_getElem? (i := 14) rfl)) (hw _ (List.mem_of_getElem? (i := 6) rfl)) (by decide) (by decide)) (g := (mkF m 6 #[rv r0, rv r1] [.null, (.int (2 : Int32)), (.int (0 : Int32)), (.ref r1), (.ref r0)])) rfl (by rw [hml]; rfl) (Steps.refl _) (a := r0) (argsL := [(.ref r1), (.int (0 : Int32)), (.int (2 : Int32)), .null]) (rest := []) (lenOf pd9 rfl) rfl (by show 2 * 0 + _ ≤ _; exact Nat.le_of_eq rfl) (hb hby d2_6) (fun _ _ => ⟨rfl, e0, (by decide : 0 + 1 ≤ _), (by decide : 0 + 2 ≤ _)⟩)
  dsimp only [Pt.U, Pt.locs, Pt.cells, Pt.slots] at X3 l3 y3 z3 st3 hQ3
  subst l3 y3 z3
  obtain ⟨y3, ky3, rfl, N3q, Kc3, hy3, Fv3, Fc3, Vy3⟩ := hQ3
  have N3 := Fr.app N0 N3q
  have K3 : Keep h0 T3.heap [r0] := (Keep.refl h0 [r0]).trans Kc3 (allS (Or.inl (List.mem_of_getElem? (i := 0) rfl)) all0)
  have g_y3 : n0 ≤ y3 := Nat.le_trans (Nat.le_trans Z0 (Keep.refl h0 [r0]).1) hy3
  have sz_y3 : h0.size ≤ y3 := Nat.le_trans (Keep.refl h0 [r0]).1 hy3
  have pre4 : ∀ t, Steps p.tables e below (T3.setTop (mkF m 9 #[rv r0, rv r1] [])) t → Steps p.tables e below (s₁.setTop (entryFrame m #[(.ref r0), (.ref r1)] 2)) t := by
    intro t kt
    refine pre2 _ ?_
    show Steps p.tables e below (s₁.setTop (mkF m 6 #[rv r0, rv r1] [.null, (.int (2 : Int32)), (.int (0 : Int32)), (.ref r1), (.ref r0)])) _
    refine st3.trans ?_
    exact kt
  obtain ⟨fs, hr, hrun, hended, hW, hsame⟩ := X3.leave (v := none) (fun _ => rfl)
  refine ⟨_, _, pre4 _ ?_, hrun, hended, _, _, rfl, ?_, ⟨_, rfl⟩, hW, hsame.mono (by decide) (by decide)⟩
  · show Steps p.tables e below (T3.setTop (mkF m 9 #[rv r0, rv r1] [])) _
    exact X3.returnOut hx Bd.returns (hb hby d2_9) hr
  · show Q2 Z r0 r1 kc c0 c1 cs h0 n0 _ T3.heap _
    exact ⟨y3, ky3, rfl, N3, K3, sz_y3, Fv3, Fc3, Vy3⟩
theorem pn10 : plainName "com/example/fair_witness/fairwitness/verifier/DecodingFailureEqualsPinLaw" = true := by first | (simp [plainName, overriddenIn]; done) | decide +kernel
theorem d1_0 : decode method_3_code 0 = .ok (.iload_n 0, 1) := by decide +kernel
theorem d1_1 : decode method_3_code 1 = .ok (.ifCond .eq 8, 3) := by decide +kernel
theorem d1_4 : decode method_3_code 4 = .ok (.iload_n 1, 1) := by decide +kernel
theorem pd11 : parseMethodDescriptor "(C)Ljava/lang/String;" = some ⟨[.char], some (.object "java/lang/String")⟩ := by decide +kernel
theorem d1_5 : decode method_3_code 5 = .ok (.invokestatic 22, 3) := by decide +kernel
theorem d1_8 : decode method_3_code 8 = .ok (.areturn, 1) := by decide +kernel
theorem ef_1s (m : MethodId) (x0 : Int32) (x1 : Int32) (x2 : Int32) : entryFrame m #[(.int x0), (.int x1), (.int x2)] 3 = mkF m 0 #[.val (.int x0), .val (.int x1), .val (.int x2)] [] := by first | (simp [entryFrame, mkF, argsToLocals, Value.category]; done) | rfl
def Q1s (Z : State) (p1 : Int32) (p2 : Int32) (cs : Int32) (h0 : Heap) (n0 : Nat) (v : Option Value) (h : Heap) (L : List Loc) : Prop := ∃ x y k, v = some (.ref x) ∧ Fr n0 L ∧ Keep h0 h [] ∧ h0.size ≤ x ∧ h0.size ≤ y ∧ Exa Z h x "java/lang/String" ∧ Fld Z h x "java/lang/String" "value" "[B" (.ref y) ∧ Fld Z h x "java/lang/String" "coder" "B" (.int (0 : Int32)) ∧ Arv Z h y k .byte (1 : Int32) [(.int (p1.toInt8.toInt32))] (.int (0 : Int32))
set_option maxRecDepth 65536 in
set_option maxHeartbeats 40000000 in
theorem rm1s (l : Launch) (Z : State) (a0 : Array Value) (hw : ∀ d ∈ tables_1, d.before a0 Z = true) (ws : List Jvm.Cond) (p1 : Int32) (p2 : Int32) (cs : Int32) (h0 : Heap) (n0 : Nat) (Z0 : n0 ≤ h0.size) (O0 : Old Z n0 h0) (S_cs : Sta Z Z.heap "java/lang/String" "COMPACT_STRINGS" "Z" (.int cs)) (hcs : ¬ (cs = (0 : Int32))) (hc : ¬ ((255 : Int32) < p1)) :
    MetFree l (⟨"com/example/fair_witness/fairwitness/verifier/DecodingFailureEqualsPinLaw", "text", "(ZCC)Ljava/lang/String;"⟩ : MethodName) (head1 (Jvm.Cond.code (⟨"com/example/fair_witness/fairwitness/verifier/DecodingFailureEqualsPinLaw", "text", "(ZCC)Ljava/lang/String;"⟩ : MethodName) method_3_code 3 (some (.object "java/lang/String")) :: ws) ({ frames := 3, cells := 2, slots := 5, locals := 39 } : Room)) (fun a U => a = #[(.int (1 : Int32)), (.int p1), (.int p2)] ∧ Z.Warmed39 U.vm ∧ U.heap = h0) (fun _ _ _ _ _ => True) (fun _ U o U' => ∃ v L, o = .returned v ∧ Q1s Z p1 p2 cs h0 n0 v U'.heap L ∧ FrameEnd U o U' L ({ frames := 3, cells := 2, slots := 5, locals := 39 } : Room).cells ({ frames := 3, cells := 2, slots := 5, locals := 39 } : Room).slots) := by
  refine MetFree.of_bodySF (plainFor_of_name pn10) hisR ?_
  intro p e s m args below meth c s₁ Bd hml0 hP hK
  obtain ⟨rfl, hZ, hh⟩ := hP
  have hx := Bd.exec
  have hby := Bd.bytes
  have hml : c.maxLocals = 3 := hml0
  have hown : s.vm.findClass "com/example/fair_witness/fairwitness/verifier/DecodingFailureEqualsPinLaw" = some m.cls := findClass_of_methodNamed Bd.named
  have hnm := (name_of_methodNamed Bd.named Bd.method).1
  have X0 : Stand p l e ({ frames := 3, cells := 2, slots := 5, locals := 39 } : Room) s m #[(.int (1 : Int32)), (.int p1), (.int p2)] below meth c s₁ [] 0 0 := Stand.of_body Bd
  have e0 : s₁.heap = h0 := by rw [← hh, Bd.state]; rfl
  have N0 := Fr.nil n0
  have pre0 : ∀ t, Steps p.tables e below (s₁.setTop (mkF m 0 #[iv (1 : Int32), iv p1, iv p2] [])) t → Steps p.tables e below (s₁.setTop (entryFrame m #[(.int (1 : Int32)), (.int p1), (.int p2)] 3)) t := fun t k => castTop (ef_1s m (1 : Int32) p1 p2) k
  have pre1 : ∀ t, Steps p.tables e below (s₁.setTop (mkF m 5 #[iv (1 : Int32), iv p1, iv p2] [(.int p1)])) t → Steps p.tables e below (s₁.setTop (entryFrame m #[(.int (1 : Int32)), (.int p1), (.int p2)] 3)) t := by
    intro t kt
    refine pre0 _ ?_
    show Steps p.tables e below (s₁.setTop (mkF m 0 #[iv (1 : Int32), iv p1, iv p2] [])) _
    refine XS.iloadN X0.here hx rfl (hb hby d1_0) rfl ?_
    show Steps p.tables e below (s₁.setTop (mkF m 1 #[iv (1 : Int32), iv p1, iv p2] [(.int (1 : Int32))])) _
    refine XS.ifNo X0.here hx rfl (hb hby d1_1) rfl ((if0 _ _).trans (feq (by decide)).1) ?_
    show Steps p.tables e below (s₁.setTop (mkF m 4 #[iv (1 : Int32), iv p1, iv p2] [])) _
    refine XS.iloadN X0.here hx rfl (hb hby d1_4) rfl ?_
    exact kt
  obtain ⟨_, _, ⟨T2, L2, k2, n2⟩, -, X2, ⟨Lc2, hQ2, l2, y2, z2⟩, st2⟩ := Jvm.LawKit.callS X0 hx (y := (⟨"java/lang/String", "valueOf", "(C)Ljava/lang/String;"⟩ : MethodName)) hown (mvT hZ (hw _ (List.mem_of_getElem? (i := 58) rfl))) (mvT hZ (hw _ (List.mem_of_getElem? (i := 59) rfl))) (mvT hZ (hw _ (List.mem_of_getElem? (i := 6) rfl))) (mvT hZ (hw _ (List.mem_of_getElem? (i := 60) rfl))) (by decide) (backOf (W := 0) (rm11 l Z a0 hw [] p1 cs h0 n0 (Nat.le_trans Z0 (Keep.refl h0 []).1) (O0.keep (Keep.refl h0 []) all0) S_cs hcs hc) hZ (hw _ (List.mem_of_getElem? (i := 60) rfl)) (hw _ (List.mem_of_getElem? (i := 6) rfl)) (by decide) (by decide)) (g := (mkF m 5 #[iv (1 : Int32), iv p1, iv p2] [(.int p1)])) rfl (by rw [hml]; rfl) (argsL := [(.int p1)]) (rest := []) (lenOf pd11 rfl) rfl (by show 2 * 0 + _ ≤ _; exact Nat.le_of_eq rfl) (hb hby d1_5) (fun _ _ => ⟨rfl, e0, (by decide : 0 + 2 ≤ _), (by decide : 0 + 5 ≤ _)⟩)
  dsimp only [Pt.U, Pt.locs, Pt.cells, Pt.slots] at X2 l2 y2 z2 st2 hQ2
  subst l2 y2 z2
  obtain ⟨x2, y2, ky2, rfl, N2q, Kc2, hx2, hy2, Ex2, Fv2, Fc2, Vy2⟩ := hQ2
  have N2 := Fr.app N0 N2q
  have K2 : Keep h0 T2.heap [] := (Keep.refl h0 []).trans Kc2 all0
  have g_x2 : n0 ≤ x2 := Nat.le_trans (Nat.le_trans Z0 (Keep.refl h0 []).1) hx2
  have sz_x2 : h0.size ≤ x2 := Nat.le_trans (Keep.refl h0 []).1 hx2
  have g_y2 : n0 ≤ y2 := Nat.le_trans (Nat.le_trans Z0 (Keep.refl h0 []).1) hy2
  have sz_y2 : h0.size ≤ y2 := Nat.le_trans (Keep.refl h0 []).1 hy2
  have pre3 : ∀ t, Steps p.tables e below (T2.setTop (mkF m 8 #[iv (1 : Int32), iv p1, iv p2] [(.ref x2)])) t → Steps p.tables e below (s₁.setTop (entryFrame m #[(.int (1 : Int32)), (.int p1), (.int p2)] 3)) t := by
    intro t kt
    refine pre1 _ ?_
    show Steps p.tables e below (s₁.setTop (mkF m 5 #[iv (1 : Int32), iv p1, iv p2] [(.int p1)])) _
    refine st2 _ ?_
    exact kt
  obtain ⟨fs, hr, hrun, hended, hW, hsame⟩ := X2.leave (v := some (.ref x2)) (fun h => by rw [Bd.returns] at h; cases h)
  refine ⟨_, _, pre3 _ ?_, hrun, hended, _, _, rfl, ?_, ⟨_, rfl⟩, hW, hsame.mono (by decide) (by decide)⟩
  · show Steps p.tables e below (T2.setTop (mkF m 8 #[iv (1 : Int32), iv p1, iv p2] [(.ref x2)])) _
    jvm_step X2.here [X2.here.top, hx, (hb hby d1_8), X2.method', Bd.returns, Value.isRef, FieldType.isReference]
    first | (intro acts; rw [hr _ acts rfl rfl rfl]) | rw [hr _ _ rfl rfl rfl]
    exact Steps.refl _
  · show Q1s Z p1 p2 cs h0 n0 _ T2.heap _
    exact ⟨x2, y2, ky2, rfl, N2, K2, sz_x2, sz_y2, Ex2, Fv2, Fc2, Vy2⟩
theorem d1_9 : decode method_3_code 9 = .ok (.new 23, 3) := by decide +kernel
theorem d1_12 : decode method_3_code 12 = .ok (.dup, 1) := by decide +kernel
theorem d1_13 : decode method_3_code 13 = .ok (.iconst 2, 1) := by decide +kernel
theorem d1_14 : decode method_3_code 14 = .ok (.newarray .char, 2) := by decide +kernel
theorem d1_16 : decode method_3_code 16 = .ok (.dup, 1) := by decide +kernel
theorem d1_17 : decode method_3_code 17 = .ok (.iconst 0, 1) := by decide +kernel
theorem d1_18 : decode method_3_code 18 = .ok (.iload_n 1, 1) := by decide +kernel
theorem d1_19 : decode method_3_code 19 = .ok (.castore, 1) := by decide +kernel
theorem d1_20 : decode method_3_code 20 = .ok (.dup, 1) := by decide +kernel
theorem d1_21 : decode method_3_code 21 = .ok (.iconst 1, 1) := by decide +kernel
theorem d1_22 : decode method_3_code 22 = .ok (.iload_n 2, 1) := by decide +kernel
theorem d1_23 : decode method_3_code 23 = .ok (.castore, 1) := by decide +kernel
theorem pd12 : parseMethodDescriptor "([C)V" = some ⟨[(.array .char)], none⟩ := by decide +kernel
theorem d1_24 : decode method_3_code 24 = .ok (.invokespecial 28, 3) := by decide +kernel
theorem d1_27 : decode method_3_code 27 = .ok (.areturn, 1) := by decide +kernel
theorem ef_1l (m : MethodId) (x0 : Int32) (x1 : Int32) (x2 : Int32) : entryFrame m #[(.int x0), (.int x1), (.int x2)] 3 = mkF m 0 #[.val (.int x0), .val (.int x1), .val (.int x2)] [] := by first | (simp [entryFrame, mkF, argsToLocals, Value.category]; done) | rfl
def Q1l (Z : State) (p1 : Int32) (p2 : Int32) (cs : Int32) (h0 : Heap) (n0 : Nat) (v : Option Value) (h : Heap) (L : List Loc) : Prop := ∃ x y k, v = some (.ref x) ∧ Fr n0 L ∧ Keep h0 h [] ∧ h0.size ≤ x ∧ h0.size ≤ y ∧ Exa Z h x "java/lang/String" ∧ Fld Z h x "java/lang/String" "value" "[B" (.ref y) ∧ Fld Z h x "java/lang/String" "coder" "B" (.int (0 : Int32)) ∧ Arv Z h y k .byte (2 : Int32) [(.int (p1.toInt8.toInt32)), (.int (p2.toInt8.toInt32))] (.int (0 : Int32))
set_option maxRecDepth 65536 in
set_option maxHeartbeats 40000000 in
theorem rm1l (l : Launch) (Z : State) (a0 : Array Value) (hw : ∀ d ∈ tables_1, d.before a0 Z = true) (ws : List Jvm.Cond) (p1 : Int32) (p2 : Int32) (cs : Int32) (h0 : Heap) (n0 : Nat) (Z0 : n0 ≤ h0.size) (O0 : Old Z n0 h0) (S_cs : Sta Z Z.heap "java/lang/String" "COMPACT_STRINGS" "Z" (.int cs)) (hcs : ¬ (cs = (0 : Int32))) (h255_1 : ¬ ((255 : Int32) < p1)) (h255_2 : ¬ ((255 : Int32) < p2)) (hn1 : nar .char p1 = p1) (hn2 : nar .char p2 = p2) :
    MetFree l (⟨"com/example/fair_witness/fairwitness/verifier/DecodingFailureEqualsPinLaw", "text", "(ZCC)Ljava/lang/String;"⟩ : MethodName) (head1 (Jvm.Cond.code (⟨"com/example/fair_witness/fairwitness/verifier/DecodingFailureEqualsPinLaw", "text", "(ZCC)Ljava/lang/String;"⟩ : MethodName) method_3_code 3 (some (.object "java/lang/String")) :: ws) ({ frames := 4, cells := 3, slots := 8, locals := 67 } : Room)) (fun a U => a = #[(.int (0 : Int32)), (.int p1), (.int p2)] ∧ Z.Warmed39 U.vm ∧ U.heap = h0) (fun _ _ _ _ _ => True) (fun _ U o U' => ∃ v L, o = .returned v ∧ Q1l Z p1 p2 cs h0 n0 v U'.heap L ∧ FrameEnd U o U' L ({ frames := 4, cells := 3, slots := 8, locals := 67 } : Room).cells ({ frames := 4, cells := 3, slots := 8, locals := 67 } : Room).slots) := by
  refine MetFree.of_bodySF (plainFor_of_name pn10) hisR ?_
  intro p e s m args below meth c s₁ Bd hml0 hP hK
  obtain ⟨rfl, hZ, hh⟩ := hP
  have hx := Bd.exec
  have hby := Bd.bytes
  have hml : c.maxLocals = 3 := hml0
  have hown : s.vm.findClass "com/example/fair_witness/fairwitness/verifier/DecodingFailureEqualsPinLaw" = some m.cls := findClass_of_methodNamed Bd.named
  have hnm := (name_of_methodNamed Bd.named Bd.method).1
  have X0 : Stand p l e ({ frames := 4, cells := 3, slots := 8, locals := 67 } : Room) s m #[(.int (0 : Int32)), (.int p1), (.int p2)] below meth c s₁ [] 0 0 := Stand.of_body Bd
  have e0 : s₁.heap = h0 := by rw [← hh, Bd.state]; rfl
  have N0 := Fr.nil n0
  have pre0 : ∀ t, Steps p.tables e below (s₁.setTop (mkF m 0 #[iv (0 : Int32), iv p1, iv p2] [])) t → Steps p.tables e below (s₁.setTop (entryFrame m #[(.int (0 : Int32)), (.int p1), (.int p2)] 3)) t := fun t k => castTop (ef_1l m (0 : Int32) p1 p2) k
  have pre1 : ∀ t, Steps p.tables e below (s₁.setTop (mkF m 9 #[iv (0 : Int32), iv p1, iv p2] [])) t → Steps p.tables e below (s₁.setTop (entryFrame m #[(.int (0 : Int32)), (.int p1), (.int p2)] 3)) t := by
    intro t kt
    refine pre0 _ ?_
    show Steps p.tables e below (s₁.setTop (mkF m 0 #[iv (0 : Int32), iv p1, iv p2] [])) _
    refine XS.iloadN X0.here hx rfl (hb hby d1_0) rfl ?_
    show Steps p.tables e below (s₁.setTop (mkF m 1 #[iv (0 : Int32), iv p1, iv p2] [(.int (0 : Int32))])) _
    refine XS.ifYes X0.here hx rfl (pc0 := 1) (pc' := 9) rfl (hb hby d1_1) rfl ((if0 _ _).trans (teq (by decide)).1) (by decide) (by decide) ?_
    exact kt
  obtain ⟨T2, h2, X2, e2, E2, A2, D2, -, st2⟩ := newO X0 hx hZ hown (hw _ (List.mem_of_getElem? (i := 4) rfl)) (hw _ (List.mem_of_getElem? (i := 5) rfl)) (hw _ (List.mem_of_getElem? (i := 6) rfl)) e0 (g := (mkF m 9 #[iv (0 : Int32), iv p1, iv p2] [])) rfl (hb hby d1_9) (by decide) (by decide)
  obtain ⟨b2, g2⟩ : ∃ z, z = h0.size := ⟨_, rfl⟩
  rw [← g2] at A2 D2 st2
  have g_b2 : n0 ≤ b2 := Nat.le_trans (Nat.le_trans Z0 (Keep.refl h0 []).1) (Nat.le_of_eq g2.symm)
  have sz_b2 : h0.size ≤ b2 := Nat.le_trans (Keep.refl h0 []).1 (Nat.le_of_eq g2.symm)
  have F_coder_b2 : Fld Z h2 b2 "java/lang/String" "coder" "B" (.int (0 : Int32)) := D2 (Or.inr (hw _ (List.mem_of_getElem? (i := 31) rfl))) (ty := .byte) (by decide)
  have F_value_b2 : Fld Z h2 b2 "java/lang/String" "value" "[B" .null := D2 (Or.inr (hw _ (List.mem_of_getElem? (i := 33) rfl))) (ty := (.array .byte)) (by decide)
  have K2 : Keep h0 h2 [] := (Keep.refl h0 []).ext E2
  have pre3 : ∀ t, Steps p.tables e below (T2.setTop (mkF m 14 #[iv (0 : Int32), iv p1, iv p2] [(.int (2 : Int32)), (.ref b2), (.ref b2)])) t → Steps p.tables e below (s₁.setTop (entryFrame m #[(.int (0 : Int32)), (.int p1), (.int p2)] 3)) t := by
    intro t kt
    refine pre1 _ ?_
    show Steps p.tables e below (s₁.setTop (mkF m 9 #[iv (0 : Int32), iv p1, iv p2] [])) _
    refine st2 _ ?_
    show Steps p.tables e below (T2.setTop (mkF m 12 #[iv (0 : Int32), iv p1, iv p2] [(.ref b2)])) _
    refine XS.dup X2.here hx rfl (hb hby d1_12) rfl rfl ?_
    show Steps p.tables e below (T2.setTop (mkF m 13 #[iv (0 : Int32), iv p1, iv p2] [(.ref b2), (.ref b2)])) _
    refine XS.iconst X2.here hx rfl (hb hby d1_13) ?_
    exact kt
  obtain ⟨T4, h4, k4, X4, e4, E4, A4, Ex4, st4⟩ := newPE X2 hx hZ (hw _ (List.mem_of_getElem? (i := 7) rfl)) e2 (g := (mkF m 14 #[iv (0 : Int32), iv p1, iv p2] [(.int (2 : Int32)), (.ref b2), (.ref b2)])) rfl (hb hby d1_14) rfl (by decide) (cap := 2) (by decide) (by decide) (by decide) (by decide) (ad := "[C") rfl
  obtain ⟨b4, g4⟩ : ∃ z, z = h2.size := ⟨_, rfl⟩
  rw [← g4] at A4 Ex4 st4
  have g_b4 : n0 ≤ b4 := Nat.le_trans (Nat.le_trans Z0 K2.1) (Nat.le_of_eq g4.symm)
  have sz_b4 : h0.size ≤ b4 := Nat.le_trans K2.1 (Nat.le_of_eq g4.symm)
  have V_b4 : Arv Z h4 b4 k4 .char (2 : Int32) [(.int (0 : Int32)), (.int (0 : Int32))] (.int (0 : Int32)) := (Arv.new A4 (by decide)).pad (pad_rep [] (.int (0 : Int32)) 2)
  have K4 : Keep h0 h4 [] := K2.ext E4
  have pre5 : ∀ t, Steps p.tables e below (T4.setTop (mkF m 19 #[iv (0 : Int32), iv p1, iv p2] [(.int p1), (.int (0 : Int32)), (.ref b4), (.ref b4), (.ref b2), (.ref b2)])) t → Steps p.tables e below (s₁.setTop (entryFrame m #[(.int (0 : Int32)), (.int p1), (.int p2)] 3)) t := by
    intro t kt
    refine pre3 _ ?_
    show Steps p.tables e below (T2.setTop (mkF m 14 #[iv (0 : Int32), iv p1, iv p2] [(.int (2 : Int32)), (.ref b2), (.ref b2)])) _
    refine st4 _ ?_
    show Steps p.tables e below (T4.setTop (mkF m 16 #[iv (0 : Int32), iv p1, iv p2] [(.ref b4), (.ref b2), (.ref b2)])) _
    refine XS.dup X4.here hx rfl (hb hby d1_16) rfl rfl ?_
    show Steps p.tables e below (T4.setTop (mkF m 17 #[iv (0 : Int32), iv p1, iv p2] [(.ref b4), (.ref b4), (.ref b2), (.ref b2)])) _
    refine XS.iconst X4.here hx rfl (hb hby d1_17) ?_
    show Steps p.tables e below (T4.setTop (mkF m 18 #[iv (0 : Int32), iv p1, iv p2] [(.int (0 : Int32)), (.ref b4), (.ref b4), (.ref b2), (.ref b2)])) _
    refine XS.iloadN X4.here hx rfl (hb hby d1_18) rfl ?_
    exact kt
  obtain ⟨cl6, Ar6, q6, S6, M6, H6, G6⟩ := id V_b4
  have hin6 : ¬ ((0 : Int32) < 0 ∨ cl6.slots.size ≤ ((0 : Int32)).toNatClampNeg) := inb_of S6 ⟨by decide, by decide⟩
  obtain ⟨T6, h6, X6, e6, W6, st6⟩ := stC X4 hx hZ e4 Ar6 (j := (0 : Int32)) hin6 (g := (mkF m 19 #[iv (0 : Int32), iv p1, iv p2] [(.int p1), (.int (0 : Int32)), (.ref b4), (.ref b4), (.ref b2), (.ref b2)])) rfl rfl (hb hby d1_19)
  have nn6 : nar .char p1 = p1 := hn1
  rw [nn6] at W6
  have V6 : Arv Z h6 b4 k4 .char (2 : Int32) [(.int p1), (.int (0 : Int32))] (.int (0 : Int32)) := Arv.set Ar6 q6 S6 M6 H6 G6 (own_fc nn6) W6 0 rfl (Nat.le_of_ble_eq_true rfl)
  have K6 : Keep h0 h6 [] := K4.wr W6 (Or.inr sz_b4)
  have N6 := Fr.snoc X6 N0 g_b4
  have pre7 : ∀ t, Steps p.tables e below (T6.setTop (mkF m 23 #[iv (0 : Int32), iv p1, iv p2] [(.int p2), (.int (1 : Int32)), (.ref b4), (.ref b4), (.ref b2), (.ref b2)])) t → Steps p.tables e below (s₁.setTop (entryFrame m #[(.int (0 : Int32)), (.int p1), (.int p2)] 3)) t := by
    intro t kt
    refine pre5 _ ?_
    show Steps p.tables e below (T4.setTop (mkF m 19 #[iv (0 : Int32), iv p1, iv p2] [(.int p1), (.int (0 : Int32)), (.ref b4), (.ref b4), (.ref b2), (.ref b2)])) _
    refine st6 _ ?_
    show Steps p.tables e below (T6.setTop (mkF m 20 #[iv (0 : Int32), iv p1, iv p2] [(.ref b4), (.ref b2), (.ref b2)])) _
    refine XS.dup X6.here hx rfl (hb hby d1_20) rfl rfl ?_
    show Steps p.tables e below (T6.setTop (mkF m 21 #[iv (0 : Int32), iv p1, iv p2] [(.ref b4), (.ref b4), (.ref b2), (.ref b2)])) _
    refine XS.iconst X6.here hx rfl (hb hby d1_21) ?_
    show Steps p.tables e below (T6.setTop (mkF m 22 #[iv (0 : Int32), iv p1, iv p2] [(.int (1 : Int32)), (.ref b4), (.ref b4), (.ref b2), (.ref b2)])) _
    refine XS.iloadN X6.here hx rfl (hb hby d1_22) rfl ?_
    exact kt
  obtain ⟨cl8, Ar8, q8, S8, M8, H8, G8⟩ := id V6
  have hin8 : ¬ ((1 : Int32) < 0 ∨ cl8.slots.size ≤ ((1 : Int32)).toNatClampNeg) := inb_of S8 ⟨by decide, by decide⟩
  obtain ⟨T8, h8, X8, e8, W8, st8⟩ := stC X6 hx hZ e6 Ar8 (j := (1 : Int32)) hin8 (g := (mkF m 23 #[iv (0 : Int32), iv p1, iv p2] [(.int p2), (.int (1 : Int32)), (.ref b4), (.ref b4), (.ref b2), (.ref b2)])) rfl rfl (hb hby d1_23)
  have nn8 : nar .char p2 = p2 := hn2
  rw [nn8] at W8
  have V8 : Arv Z h8 b4 k4 .char (2 : Int32) [(.int p1), (.int p2)] (.int (0 : Int32)) := Arv.set Ar8 q8 S8 M8 H8 G8 (own_fc nn8) W8 1 rfl (Nat.le_of_ble_eq_true rfl)
  have K8 : Keep h0 h8 [] := K6.wr W8 (Or.inr sz_b4)
  have N8 := Fr.snoc X8 N6 g_b4
  have pre9 : ∀ t, Steps p.tables e below (T8.setTop (mkF m 24 #[iv (0 : Int32), iv p1, iv p2] [(.ref b4), (.ref b2), (.ref b2)])) t → Steps p.tables e below (s₁.setTop (entryFrame m #[(.int (0 : Int32)), (.int p1), (.int p2)] 3)) t := by
    intro t kt
    refine pre7 _ ?_
    show Steps p.tables e below (T6.setTop (mkF m 23 #[iv (0 : Int32), iv p1, iv p2] [(.int p2), (.int (1 : Int32)), (.ref b4), (.ref b4), (.ref b2), (.ref b2)])) _
    refine st8 _ ?_
    exact kt
  obtain ⟨_, _, ⟨T10, L10, k10, n10⟩, -, X10, ⟨Lc10, hQ10, l10, y10, z10⟩, st10⟩ := X8.specialBack hx (y := (⟨"java/lang/String", "<init>", "([C)V"⟩ : MethodName)) rfl hown (mvT hZ (hw _ (List.mem_of_getElem? (i := 8) rfl))) (mvT hZ (hw _ (List.mem_of_getElem? (i := 9) rfl))) (mvT hZ (hw _ (List.mem_of_getElem? (i := 10) rfl))) (by decide) (backOf (W := 1) (rm2 l Z a0 hw [] b2 b4 k4 p1 p2 cs h8 n0 (Nat.le_trans Z0 K8.1) (((F_value_b2.ext E4).other W6 (Or.inl (Nat.ne_of_lt (Nat.lt_of_lt_of_le A2.lt (Nat.le_of_eq g4.symm))))).other W8 (Or.inl (Nat.ne_of_lt (Nat.lt_of_lt_of_le A2.lt (Nat.le_of_eq g4.symm))))) (((F_coder_b2.ext E4).other W6 (Or.inl (Nat.ne_of_lt (Nat.lt_of_lt_of_le A2.lt (Nat.le_of_eq g4.symm))))).other W8 (Or.inl (Nat.ne_of_lt (Nat.lt_of_lt_of_le A2.lt (Nat.le_of_eq g4.symm))))) (((A2.ext E4).wr W6).wr W8) g_b2 (O0.keep K8 all0) S_cs hcs V8 h255_1 h255_2 (Nat.ne_of_lt (Nat.lt_of_lt_of_le A2.lt (Nat.le_of_eq g4.symm)))) hZ (hw _ (List.mem_of_getElem? (i := 10) rfl)) (hw _ (List.mem_of_getElem? (i := 6) rfl)) (by decide) (by decide)) (g := (mkF m 24 #[iv (0 : Int32), iv p1, iv p2] [(.ref b4), (.ref b2), (.ref b2)])) rfl (by rw [hml]; rfl) (Steps.refl _) (a := b2) (argsL := [(.ref b4)]) (rest := [(.ref b2)]) (lenOf pd12 rfl) rfl (by show 2 * 0 + _ ≤ _; exact Nat.le_of_eq rfl) (hb hby d1_24) (fun _ _ => ⟨rfl, e8, (by decide : 2 + 1 ≤ _), (by decide : 6 + 2 ≤ _)⟩)
  dsimp only [Pt.U, Pt.locs, Pt.cells, Pt.slots] at X10 l10 y10 z10 st10 hQ10
  subst l10 y10 z10
  obtain ⟨y10, ky10, rfl, N10q, Kc10, hy10, Fv10, Fc10, Vy10⟩ := hQ10
  have N10 := Fr.app N8 N10q
  have K10 : Keep h0 T10.heap [] := K8.trans Kc10 (allS (Or.inr sz_b2) all0)
  have g_y10 : n0 ≤ y10 := Nat.le_trans (Nat.le_trans Z0 K8.1) hy10
  have sz_y10 : h0.size ≤ y10 := Nat.le_trans K8.1 hy10
  have pre11 : ∀ t, Steps p.tables e below (T10.setTop (mkF m 27 #[iv (0 : Int32), iv p1, iv p2] [(.ref b2)])) t → Steps p.tables e below (s₁.setTop (entryFrame m #[(.int (0 : Int32)), (.int p1), (.int p2)] 3)) t := by
    intro t kt
    refine pre9 _ ?_
    show Steps p.tables e below (T8.setTop (mkF m 24 #[iv (0 : Int32), iv p1, iv p2] [(.ref b4), (.ref b2), (.ref b2)])) _
    refine st10.trans ?_
    exact kt
  obtain ⟨fs, hr, hrun, hended, hW, hsame⟩ := X10.leave (v := some (.ref b2)) (fun h => by rw [Bd.returns] at h; cases h)
  refine ⟨_, _, pre11 _ ?_, hrun, hended, _, _, rfl, ?_, ⟨_, rfl⟩, hW, hsame.mono (by decide) (by decide)⟩
  · show Steps p.tables e below (T10.setTop (mkF m 27 #[iv (0 : Int32), iv p1, iv p2] [(.ref b2)])) _
    jvm_step X10.here [X10.here.top, hx, (hb hby d1_27), X10.method', Bd.returns, Value.isRef, FieldType.isReference]
    first | (intro acts; rw [hr _ acts rfl rfl rfl]) | rw [hr _ _ rfl rfl rfl]
    exact Steps.refl _
  · show Q1l Z p1 p2 cs h0 n0 _ T10.heap _
    exact ⟨b2, y10, ky10, rfl, N10, K10, sz_b2, sz_y10, ((((A2.ext E4).wr W6).wr W8).keep Kc10), Fv10, Fc10, Vy10⟩
def own_rs (aK aP aS aR : Addr) (k : Int32) : Addr := if k = (0 : Int32) then aK else (if k = (1 : Int32) then aP else (if k = (2 : Int32) then aS else aR))
theorem own_notins {Z : State} {a0 : Array Value} {C S K : String} {n : Nat} (w : (Jvm.Cond.superclass C S).before a0 Z = true) (wo : (Jvm.Cond.noSuperclass S).before a0 Z = true) (wk : (Jvm.Cond.instantiable K n).before a0 Z = true) (h1 : C ≠ K) (h2 : S ≠ K) : ∃ c t, Z.vm.findClass C = some c ∧ Z.vm.findClass K = some t ∧ Z.vm.assignable c t = false := by
  obtain ⟨t, k', g0, g2, g5, g7, -⟩ := Cond.instantiable_spec wk
  obtain ⟨o, ko, o1, o2, o3, -, -⟩ := Cond.noSuperclass_spec wo
  obtain ⟨c, h0⟩ := found_sup w
  obtain ⟨p, k, kp, q1, q2, q3, q4, q5, -, q7⟩ := Cond.superclass_spec h0 w
  cases o1.symm.trans q1
  have ne1 := ids_ne h0 g0 h1
  have ne2 := ids_ne o1 g0 h2
  have sub : ∀ fuel, Z.vm.isSubclassAux fuel c t = false := fun fuel => by
    cases fuel with
    | zero => rfl
    | succ f =>
      cases f with
      | zero => simp [Vm.isSubclassAux, ne1, q2, q4]
      | succ f => simp [Vm.isSubclassAux, ne1, q2, q4, ne2, o2, o3]
  refine ⟨c, t, h0, g0, ?_⟩
  have g8 : k'.isInterface = false := by
    rw [Bool.or_eq_false_iff] at g7; exact g7.1
  show Z.vm.assignableAux (255 + 1) c t = false
  simp [Vm.assignableAux, ne1, q2, g2, q5, g5, g8, Vm.isSubclass, sub]
theorem d8_0 : decode method_2_code 0 = .ok (.iload_n 0, 1) := by decide +kernel
theorem d8_1 : decode method_2_code 1 = .ok (.ifCond .ne 7, 3) := by decide +kernel
theorem d8_4 : decode method_2_code 4 = .ok (.getstatic 7, 3) := by decide +kernel
theorem d8_7 : decode method_2_code 7 = .ok (.areturn, 1) := by decide +kernel
theorem d8_8 : decode method_2_code 8 = .ok (.iload_n 0, 1) := by decide +kernel
theorem d8_9 : decode method_2_code 9 = .ok (.iconst 1, 1) := by decide +kernel
theorem d8_10 : decode method_2_code 10 = .ok (.if_icmp .ne 7, 3) := by decide +kernel
theorem d8_13 : decode method_2_code 13 = .ok (.getstatic 13, 3) := by decide +kernel
theorem d8_16 : decode method_2_code 16 = .ok (.areturn, 1) := by decide +kernel
theorem d8_17 : decode method_2_code 17 = .ok (.iload_n 0, 1) := by decide +kernel
theorem d8_18 : decode method_2_code 18 = .ok (.iconst 2, 1) := by decide +kernel
theorem d8_19 : decode method_2_code 19 = .ok (.if_icmp .ne 7, 3) := by decide +kernel
theorem d8_22 : decode method_2_code 22 = .ok (.getstatic 16, 3) := by decide +kernel
theorem d8_25 : decode method_2_code 25 = .ok (.areturn, 1) := by decide +kernel
theorem d8_26 : decode method_2_code 26 = .ok (.getstatic 19, 3) := by decide +kernel
theorem d8_29 : decode method_2_code 29 = .ok (.areturn, 1) := by decide +kernel
theorem ef_8 (m : MethodId) (x0 : Int32) : entryFrame m #[(.int x0)] 1 = mkF m 0 #[.val (.int x0)] [] := by first | (simp [entryFrame, mkF, argsToLocals, Value.category]; done) | rfl
def Q8 (Z : State) (p0 : Int32) (aK : Addr) (aP : Addr) (aS : Addr) (aR : Addr) (h0 : Heap) (n0 : Nat) (v : Option Value) (h : Heap) (L : List Loc) : Prop := v = some (.ref (own_rs aK aP aS aR p0)) ∧ Fr n0 L ∧ h = h0
set_option maxRecDepth 65536 in
set_option maxHeartbeats 40000000 in
theorem rm8 (l : Launch) (Z : State) (a0 : Array Value) (hw : ∀ d ∈ tables_1, d.before a0 Z = true) (ws : List Jvm.Cond) (p0 : Int32) (aK : Addr) (aP : Addr) (aS : Addr) (aR : Addr) (h0 : Heap) (n0 : Nat) (Z0 : n0 ≤ h0.size) (O0 : Old Z n0 h0) (S_KEY_DESCRIPTION_INVALID : Sta Z Z.heap "com/example/fair_witness/fairwitness/verifier/Reason" "KEY_DESCRIPTION_INVALID" "Lcom/example/fair_witness/fairwitness/verifier/Reason;" (.ref aK)) (S_PROVISIONING_INFO_INVALID : Sta Z Z.heap "com/example/fair_witness/fairwitness/verifier/Reason" "PROVISIONING_INFO_INVALID" "Lcom/example/fair_witness/fairwitness/verifier/Reason;" (.ref aP)) (S_SIGNATURE_INVALID : Sta Z Z.heap "com/example/fair_witness/fairwitness/verifier/Reason" "SIGNATURE_INVALID" "Lcom/example/fair_witness/fairwitness/verifier/Reason;" (.ref aS)) (S_ROOT_NOT_TRUSTED : Sta Z Z.heap "com/example/fair_witness/fairwitness/verifier/Reason" "ROOT_NOT_TRUSTED" "Lcom/example/fair_witness/fairwitness/verifier/Reason;" (.ref aR)) :
    MetFree l (⟨"com/example/fair_witness/fairwitness/verifier/DecodingFailureEqualsPinLaw", "reason", "(I)Lcom/example/fair_witness/fairwitness/verifier/Reason;"⟩ : MethodName) (head1 (Jvm.Cond.code (⟨"com/example/fair_witness/fairwitness/verifier/DecodingFailureEqualsPinLaw", "reason", "(I)Lcom/example/fair_witness/fairwitness/verifier/Reason;"⟩ : MethodName) method_2_code 1 (some (.object "com/example/fair_witness/fairwitness/verifier/Reason")) :: ws) ({ frames := 0, cells := 0, slots := 0, locals := 0 } : Room)) (fun a U => a = #[(.int p0)] ∧ Z.Warmed39 U.vm ∧ U.heap = h0) (fun _ _ _ _ _ => True) (fun _ U o U' => ∃ v L, o = .returned v ∧ Q8 Z p0 aK aP aS aR h0 n0 v U'.heap L ∧ FrameEnd U o U' L ({ frames := 0, cells := 0, slots := 0, locals := 0 } : Room).cells ({ frames := 0, cells := 0, slots := 0, locals := 0 } : Room).slots) := by
  refine MetFree.of_bodySF (plainFor_of_name pn10) hisR ?_
  intro p e s m args below meth c s₁ Bd hml0 hP hK
  obtain ⟨rfl, hZ, hh⟩ := hP
  have hx := Bd.exec
  have hby := Bd.bytes
  have hml : c.maxLocals = 1 := hml0
  have hown : s.vm.findClass "com/example/fair_witness/fairwitness/verifier/DecodingFailureEqualsPinLaw" = some m.cls := findClass_of_methodNamed Bd.named
  have hnm := (name_of_methodNamed Bd.named Bd.method).1
  have X0 : Stand p l e ({ frames := 0, cells := 0, slots := 0, locals := 0 } : Room) s m #[(.int p0)] below meth c s₁ [] 0 0 := Stand.of_body Bd
  have e0 : s₁.heap = h0 := by rw [← hh, Bd.state]; rfl
  have N0 := Fr.nil n0
  have pre0 : ∀ t, Steps p.tables e below (s₁.setTop (mkF m 0 #[iv p0] [])) t → Steps p.tables e below (s₁.setTop (entryFrame m #[(.int p0)] 1)) t := fun t k => castTop (ef_8 m p0) k
  have pre1 : ∀ t, Steps p.tables e below (s₁.setTop (mkF m 1 #[iv p0] [(.int p0)])) t → Steps p.tables e below (s₁.setTop (entryFrame m #[(.int p0)] 1)) t := by
    intro t kt
    refine pre0 _ ?_
    show Steps p.tables e below (s₁.setTop (mkF m 0 #[iv p0] [])) _
    refine XS.iloadN X0.here hx rfl (hb hby d8_0) rfl ?_
    exact kt
  by_cases hc1 : p0 = (0 : Int32)
  · have pre2 : ∀ t, Steps p.tables e below (s₁.setTop (mkF m 4 #[iv p0] [])) t → Steps p.tables e below (s₁.setTop (entryFrame m #[(.int p0)] 1)) t := by
      intro t kt
      refine pre1 _ ?_
      show Steps p.tables e below (s₁.setTop (mkF m 1 #[iv p0] [(.int p0)])) _
      refine XS.ifNo X0.here hx rfl (hb hby d8_1) rfl ((if0 _ _).trans (teq hc1).2) ?_
      exact kt
    obtain ⟨T3, X3, e3, st3⟩ := getS2 X0 hx hZ hown (host := "") (Or.inl (hw _ (List.mem_of_getElem? (i := 40) rfl))) Via.refl e0 (S_KEY_DESCRIPTION_INVALID.ext (O0.keep (Keep.refl h0 []) all0).2) (g := (mkF m 4 #[iv p0] [])) rfl (hb hby d8_4)
    have pre4 : ∀ t, Steps p.tables e below (T3.setTop (mkF m 7 #[iv p0] [(.ref aK)])) t → Steps p.tables e below (s₁.setTop (entryFrame m #[(.int p0)] 1)) t := by
      intro t kt
      refine pre2 _ ?_
      show Steps p.tables e below (s₁.setTop (mkF m 4 #[iv p0] [])) _
      refine st3 _ ?_
      exact kt
    obtain ⟨fs, hr, hrun, hended, hW, hsame⟩ := X3.leave (v := some (.ref aK)) (fun h => by rw [Bd.returns] at h; cases h)
    refine ⟨_, _, pre4 _ ?_, hrun, hended, _, _, rfl, ?_, ⟨_, rfl⟩, hW, hsame.mono (by decide) (by decide)⟩
    · show Steps p.tables e below (T3.setTop (mkF m 7 #[iv p0] [(.ref aK)])) _
      jvm_step X3.here [X3.here.top, hx, (hb hby d8_7), X3.method', Bd.returns, Value.isRef, FieldType.isReference]
      first | (intro acts; rw [hr _ acts rfl rfl rfl]) | rw [hr _ _ rfl rfl rfl]
      exact Steps.refl _
    · show Q8 Z p0 aK aP aS aR h0 n0 _ T3.heap _
      rw [e3]
      exact ⟨congrArg (fun z => some (Value.ref z)) ((if_pos hc1).trans rfl).symm, N0, rfl⟩
  · have pre5 : ∀ t, Steps p.tables e below (s₁.setTop (mkF m 10 #[iv p0] [(.int (1 : Int32)), (.int p0)])) t → Steps p.tables e below (s₁.setTop (entryFrame m #[(.int p0)] 1)) t := by
      intro t kt
      refine pre1 _ ?_
      show Steps p.tables e below (s₁.setTop (mkF m 1 #[iv p0] [(.int p0)])) _
      refine XS.ifYes X0.here hx rfl (pc0 := 1) (pc' := 8) rfl (hb hby d8_1) rfl ((if0 _ _).trans (feq hc1).2) (by decide) (by decide) ?_
      show Steps p.tables e below (s₁.setTop (mkF m 8 #[iv p0] [])) _
      refine XS.iloadN X0.here hx rfl (hb hby d8_8) rfl ?_
      show Steps p.tables e below (s₁.setTop (mkF m 9 #[iv p0] [(.int p0)])) _
      refine XS.iconst X0.here hx rfl (hb hby d8_9) ?_
      exact kt
    by_cases hc10 : p0 = (1 : Int32)
    · have pre6 : ∀ t, Steps p.tables e below (s₁.setTop (mkF m 13 #[iv p0] [])) t → Steps p.tables e below (s₁.setTop (entryFrame m #[(.int p0)] 1)) t := by
        intro t kt
        refine pre5 _ ?_
        show Steps p.tables e below (s₁.setTop (mkF m 10 #[iv p0] [(.int (1 : Int32)), (.int p0)])) _
        refine XS.icmpNo X0.here hx rfl (hb hby d8_10) rfl (teq hc10).2 ?_
        exact kt
      obtain ⟨T7, X7, e7, st7⟩ := getS2 X0 hx hZ hown (host := "") (Or.inl (hw _ (List.mem_of_getElem? (i := 72) rfl))) Via.refl e0 (S_PROVISIONING_INFO_INVALID.ext (O0.keep (Keep.refl h0 []) all0).2) (g := (mkF m 13 #[iv p0] [])) rfl (hb hby d8_13)
      have pre8 : ∀ t, Steps p.tables e below (T7.setTop (mkF m 16 #[iv p0] [(.ref aP)])) t → Steps p.tables e below (s₁.setTop (entryFrame m #[(.int p0)] 1)) t := by
        intro t kt
        refine pre6 _ ?_
        show Steps p.tables e below (s₁.setTop (mkF m 13 #[iv p0] [])) _
        refine st7 _ ?_
        exact kt
      obtain ⟨fs, hr, hrun, hended, hW, hsame⟩ := X7.leave (v := some (.ref aP)) (fun h => by rw [Bd.returns] at h; cases h)
      refine ⟨_, _, pre8 _ ?_, hrun, hended, _, _, rfl, ?_, ⟨_, rfl⟩, hW, hsame.mono (by decide) (by decide)⟩
      · show Steps p.tables e below (T7.setTop (mkF m 16 #[iv p0] [(.ref aP)])) _
        jvm_step X7.here [X7.here.top, hx, (hb hby d8_16), X7.method', Bd.returns, Value.isRef, FieldType.isReference]
        first | (intro acts; rw [hr _ acts rfl rfl rfl]) | rw [hr _ _ rfl rfl rfl]
        exact Steps.refl _
      · show Q8 Z p0 aK aP aS aR h0 n0 _ T7.heap _
        rw [e7]
        exact ⟨congrArg (fun z => some (Value.ref z)) ((if_neg hc1).trans ((if_pos hc10).trans rfl)).symm, N0, rfl⟩
    · have pre9 : ∀ t, Steps p.tables e below (s₁.setTop (mkF m 19 #[iv p0] [(.int (2 : Int32)), (.int p0)])) t → Steps p.tables e below (s₁.setTop (entryFrame m #[(.int p0)] 1)) t := by
        intro t kt
        refine pre5 _ ?_
        show Steps p.tables e below (s₁.setTop (mkF m 10 #[iv p0] [(.int (1 : Int32)), (.int p0)])) _
        refine XS.icmpYes X0.here hx rfl (pc0 := 10) (pc' := 17) rfl (hb hby d8_10) rfl (feq hc10).2 (by decide) (by decide) ?_
        show Steps p.tables e below (s₁.setTop (mkF m 17 #[iv p0] [])) _
        refine XS.iloadN X0.here hx rfl (hb hby d8_17) rfl ?_
        show Steps p.tables e below (s₁.setTop (mkF m 18 #[iv p0] [(.int p0)])) _
        refine XS.iconst X0.here hx rfl (hb hby d8_18) ?_
        exact kt
      by_cases hc19 : p0 = (2 : Int32)
      · have pre10 : ∀ t, Steps p.tables e below (s₁.setTop (mkF m 22 #[iv p0] [])) t → Steps p.tables e below (s₁.setTop (entryFrame m #[(.int p0)] 1)) t := by
          intro t kt
          refine pre9 _ ?_
          show Steps p.tables e below (s₁.setTop (mkF m 19 #[iv p0] [(.int (2 : Int32)), (.int p0)])) _
          refine XS.icmpNo X0.here hx rfl (hb hby d8_19) rfl (teq hc19).2 ?_
          exact kt
        obtain ⟨T11, X11, e11, st11⟩ := getS2 X0 hx hZ hown (host := "") (Or.inl (hw _ (List.mem_of_getElem? (i := 88) rfl))) Via.refl e0 (S_SIGNATURE_INVALID.ext (O0.keep (Keep.refl h0 []) all0).2) (g := (mkF m 22 #[iv p0] [])) rfl (hb hby d8_22)
        have pre12 : ∀ t, Steps p.tables e below (T11.setTop (mkF m 25 #[iv p0] [(.ref aS)])) t → Steps p.tables e below (s₁.setTop (entryFrame m #[(.int p0)] 1)) t := by
          intro t kt
          refine pre10 _ ?_
          show Steps p.tables e below (s₁.setTop (mkF m 22 #[iv p0] [])) _
          refine st11 _ ?_
          exact kt
        obtain ⟨fs, hr, hrun, hended, hW, hsame⟩ := X11.leave (v := some (.ref aS)) (fun h => by rw [Bd.returns] at h; cases h)
        refine ⟨_, _, pre12 _ ?_, hrun, hended, _, _, rfl, ?_, ⟨_, rfl⟩, hW, hsame.mono (by decide) (by decide)⟩
        · show Steps p.tables e below (T11.setTop (mkF m 25 #[iv p0] [(.ref aS)])) _
          jvm_step X11.here [X11.here.top, hx, (hb hby d8_25), X11.method', Bd.returns, Value.isRef, FieldType.isReference]
          first | (intro acts; rw [hr _ acts rfl rfl rfl]) | rw [hr _ _ rfl rfl rfl]
          exact Steps.refl _
        · show Q8 Z p0 aK aP aS aR h0 n0 _ T11.heap _
          rw [e11]
          exact ⟨congrArg (fun z => some (Value.ref z)) ((if_neg hc1).trans ((if_neg hc10).trans ((if_pos hc19).trans rfl))).symm, N0, rfl⟩
      · have pre13 : ∀ t, Steps p.tables e below (s₁.setTop (mkF m 26 #[iv p0] [])) t → Steps p.tables e below (s₁.setTop (entryFrame m #[(.int p0)] 1)) t := by
          intro t kt
          refine pre9 _ ?_
          show Steps p.tables e below (s₁.setTop (mkF m 19 #[iv p0] [(.int (2 : Int32)), (.int p0)])) _
          refine XS.icmpYes X0.here hx rfl (pc0 := 19) (pc' := 26) rfl (hb hby d8_19) rfl (feq hc19).2 (by decide) (by decide) ?_
          exact kt
        obtain ⟨T14, X14, e14, st14⟩ := getS2 X0 hx hZ hown (host := "") (Or.inl (hw _ (List.mem_of_getElem? (i := 86) rfl))) Via.refl e0 (S_ROOT_NOT_TRUSTED.ext (O0.keep (Keep.refl h0 []) all0).2) (g := (mkF m 26 #[iv p0] [])) rfl (hb hby d8_26)
        have pre15 : ∀ t, Steps p.tables e below (T14.setTop (mkF m 29 #[iv p0] [(.ref aR)])) t → Steps p.tables e below (s₁.setTop (entryFrame m #[(.int p0)] 1)) t := by
          intro t kt
          refine pre13 _ ?_
          show Steps p.tables e below (s₁.setTop (mkF m 26 #[iv p0] [])) _
          refine st14 _ ?_
          exact kt
        obtain ⟨fs, hr, hrun, hended, hW, hsame⟩ := X14.leave (v := some (.ref aR)) (fun h => by rw [Bd.returns] at h; cases h)
        refine ⟨_, _, pre15 _ ?_, hrun, hended, _, _, rfl, ?_, ⟨_, rfl⟩, hW, hsame.mono (by decide) (by decide)⟩
        · show Steps p.tables e below (T14.setTop (mkF m 29 #[iv p0] [(.ref aR)])) _
          jvm_step X14.here [X14.here.top, hx, (hb hby d8_29), X14.method', Bd.returns, Value.isRef, FieldType.isReference]
          first | (intro acts; rw [hr _ acts rfl rfl rfl]) | rw [hr _ _ rfl rfl rfl]
          exact Steps.refl _
        · show Q8 Z p0 aK aP aS aR h0 n0 _ T14.heap _
          rw [e14]
          exact ⟨congrArg (fun z => some (Value.ref z)) ((if_neg hc1).trans ((if_neg hc10).trans ((if_neg hc19).trans rfl))).symm, N0, rfl⟩
theorem pn13 : plainName "com/example/fair_witness/fairwitness/verifier/DecodingFailure" = true := by first | (simp [plainName, overriddenIn]; done) | decide +kernel
theorem d9_0 : decode prog_25_method_1_code 0 = .ok (.aload_n 0, 1) := by decide +kernel
theorem d9_1 : decode prog_25_method_1_code 1 = .ok (.invokespecial 1, 3) := by decide +kernel
theorem d9_4 : decode prog_25_method_1_code 4 = .ok (.aload_n 0, 1) := by decide +kernel
theorem d9_5 : decode prog_25_method_1_code 5 = .ok (.aload_n 1, 1) := by decide +kernel
theorem d9_6 : decode prog_25_method_1_code 6 = .ok (.putfield 7, 3) := by decide +kernel
theorem d9_9 : decode prog_25_method_1_code 9 = .ok (.aload_n 0, 1) := by decide +kernel
theorem d9_10 : decode prog_25_method_1_code 10 = .ok (.iload_n 2, 1) := by decide +kernel
theorem d9_11 : decode prog_25_method_1_code 11 = .ok (.putfield 13, 3) := by decide +kernel
theorem d9_14 : decode prog_25_method_1_code 14 = .ok (.aload_n 0, 1) := by decide +kernel
theorem d9_15 : decode prog_25_method_1_code 15 = .ok (.aload_n 3, 1) := by decide +kernel
theorem d9_16 : decode prog_25_method_1_code 16 = .ok (.putfield 17, 3) := by decide +kernel
theorem d9_19 : decode prog_25_method_1_code 19 = .ok (.return_, 1) := by decide +kernel
theorem ef_9 (m : MethodId) (x0 : Addr) (x1 : Addr) (x2 : Int32) (x3 : Addr) : entryFrame m #[(.ref x0), (.ref x1), (.int x2), (.ref x3)] 4 = mkF m 0 #[.val (.ref x0), .val (.ref x1), .val (.int x2), .val (.ref x3)] [] := by first | (simp [entryFrame, mkF, argsToLocals, Value.category]; done) | rfl
def Q9 (Z : State) (r0 : Addr) (r1 : Addr) (p2 : Int32) (r3 : Addr) (h0 : Heap) (n0 : Nat) (v : Option Value) (h : Heap) (L : List Loc) : Prop := v = none ∧ Fr n0 L ∧ Keep h0 h [r0] ∧ Fld Z h r0 "com/example/fair_witness/fairwitness/verifier/DecodingFailure" "reason" "Lcom/example/fair_witness/fairwitness/verifier/Reason;" (.ref r1) ∧ Fld Z h r0 "com/example/fair_witness/fairwitness/verifier/DecodingFailure" "certificateIndex" "I" (.int p2) ∧ Fld Z h r0 "com/example/fair_witness/fairwitness/verifier/DecodingFailure" "detail" "Ljava/lang/String;" (.ref r3)
set_option maxRecDepth 65536 in
set_option maxHeartbeats 40000000 in
theorem rm9 (l : Launch) (Z : State) (a0 : Array Value) (hw : ∀ d ∈ tables_1, d.before a0 Z = true) (ws : List Jvm.Cond) (r0 : Addr) (r1 : Addr) (p2 : Int32) (r3 : Addr) (h0 : Heap) (n0 : Nat) (Z0 : n0 ≤ h0.size) (F_reason_r0 : Fld Z h0 r0 "com/example/fair_witness/fairwitness/verifier/DecodingFailure" "reason" "Lcom/example/fair_witness/fairwitness/verifier/Reason;" .null) (F_certificateIndex_r0 : Fld Z h0 r0 "com/example/fair_witness/fairwitness/verifier/DecodingFailure" "certificateIndex" "I" (.int (0 : Int32))) (F_detail_r0 : Fld Z h0 r0 "com/example/fair_witness/fairwitness/verifier/DecodingFailure" "detail" "Ljava/lang/String;" .null) (E_r0 : Exa Z h0 r0 "com/example/fair_witness/fairwitness/verifier/DecodingFailure") (g_r0 : n0 ≤ r0) :
    MetFree l (⟨"com/example/fair_witness/fairwitness/verifier/DecodingFailure", "<init>", "(Lcom/example/fair_witness/fairwitness/verifier/Reason;ILjava/lang/String;)V"⟩ : MethodName) (head1 (Jvm.Cond.code (⟨"com/example/fair_witness/fairwitness/verifier/DecodingFailure", "<init>", "(Lcom/example/fair_witness/fairwitness/verifier/Reason;ILjava/lang/String;)V"⟩ : MethodName) prog_25_method_1_code 4 none :: ws) ({ frames := 1, cells := 0, slots := 0, locals := 12 } : Room)) (fun a U => a = #[(.ref r0), (.ref r1), (.int p2), (.ref r3)] ∧ Z.Warmed39 U.vm ∧ U.heap = h0) (fun _ _ _ _ _ => True) (fun _ U o U' => ∃ v L, o = .returned v ∧ Q9 Z r0 r1 p2 r3 h0 n0 v U'.heap L ∧ FrameEnd U o U' L ({ frames := 1, cells := 0, slots := 0, locals := 12 } : Room).cells ({ frames := 1, cells := 0, slots := 0, locals := 12 } : Room).slots) := by
  refine MetFree.of_bodySF (plainFor_of_name pn13) hisR ?_
  intro p e s m args below meth c s₁ Bd hml0 hP hK
  obtain ⟨rfl, hZ, hh⟩ := hP
  have hx := Bd.exec
  have hby := Bd.bytes
  have hml : c.maxLocals = 4 := hml0
  have hown : s.vm.findClass "com/example/fair_witness/fairwitness/verifier/DecodingFailure" = some m.cls := findClass_of_methodNamed Bd.named
  have hnm := (name_of_methodNamed Bd.named Bd.method).1
  have X0 : Stand p l e ({ frames := 1, cells := 0, slots := 0, locals := 12 } : Room) s m #[(.ref r0), (.ref r1), (.int p2), (.ref r3)] below meth c s₁ [] 0 0 := Stand.of_body Bd
  have e0 : s₁.heap = h0 := by rw [← hh, Bd.state]; rfl
  have N0 := Fr.nil n0
  have pre0 : ∀ t, Steps p.tables e below (s₁.setTop (mkF m 0 #[rv r0, rv r1, iv p2, rv r3] [])) t → Steps p.tables e below (s₁.setTop (entryFrame m #[(.ref r0), (.ref r1), (.int p2), (.ref r3)] 4)) t := fun t k => castTop (ef_9 m r0 r1 p2 r3) k
  have pre1 : ∀ t, Steps p.tables e below (s₁.setTop (mkF m 1 #[rv r0, rv r1, iv p2, rv r3] [(.ref r0)])) t → Steps p.tables e below (s₁.setTop (entryFrame m #[(.ref r0), (.ref r1), (.int p2), (.ref r3)] 4)) t := by
    intro t kt
    refine pre0 _ ?_
    show Steps p.tables e below (s₁.setTop (mkF m 0 #[rv r0, rv r1, iv p2, rv r3] [])) _
    refine XS.aloadN X0.here hx rfl (hb hby d9_0) rfl rfl ?_
    exact kt
  obtain ⟨T2, X2, e2, st2⟩ := initO X0 hx hZ hown (hw _ (List.mem_of_getElem? (i := 46) rfl)) (hw _ (List.mem_of_getElem? (i := 16) rfl)) (hw _ (List.mem_of_getElem? (i := 17) rfl)) e0 (g := (mkF m 1 #[rv r0, rv r1, iv p2, rv r3] [(.ref r0)])) rfl (by rw [hml]; rfl) rfl (hb hby d9_1) (by decide) (W := 0) (by show 2 * 0 + _ ≤ _; exact Nat.le_of_eq rfl) (by decide)
  have pre3 : ∀ t, Steps p.tables e below (T2.setTop (mkF m 6 #[rv r0, rv r1, iv p2, rv r3] [(.ref r1), (.ref r0)])) t → Steps p.tables e below (s₁.setTop (entryFrame m #[(.ref r0), (.ref r1), (.int p2), (.ref r3)] 4)) t := by
    intro t kt
    refine pre1 _ ?_
    show Steps p.tables e below (s₁.setTop (mkF m 1 #[rv r0, rv r1, iv p2, rv r3] [(.ref r0)])) _
    refine st2 _ ?_
    show Steps p.tables e below (T2.setTop (mkF m 4 #[rv r0, rv r1, iv p2, rv r3] [])) _
    refine XS.aloadN X2.here hx rfl (hb hby d9_4) rfl rfl ?_
    show Steps p.tables e below (T2.setTop (mkF m 5 #[rv r0, rv r1, iv p2, rv r3] [(.ref r0)])) _
    refine XS.aloadN X2.here hx rfl (hb hby d9_5) rfl rfl ?_
    exact kt
  obtain ⟨T4, h4, X4, e4, W4, st4⟩ := putF X2 hx hZ hown (host := "") (Or.inl (hw _ (List.mem_of_getElem? (i := 47) rfl))) Via.refl e2 F_reason_r0 E_r0 (Or.inr ⟨(hw _ (List.mem_of_getElem? (i := 48) rfl)), rfl, hnm⟩) (hw _ (List.mem_of_getElem? (i := 35) rfl)) (ty := (.object "com/example/fair_witness/fairwitness/verifier/Reason")) (by decide) rfl rfl (g := (mkF m 6 #[rv r0, rv r1, iv p2, rv r3] [(.ref r1), (.ref r0)])) rfl rfl (hb hby d9_6)
  have Fw4 : Fld Z h4 r0 "com/example/fair_witness/fairwitness/verifier/DecodingFailure" "reason" "Lcom/example/fair_witness/fairwitness/verifier/Reason;" (.ref r1) := F_reason_r0.same W4
  have K4 : Keep h0 h4 [r0] := (Keep.refl h0 [r0]).wr W4 (Or.inl (List.mem_of_getElem? (i := 0) rfl))
  have N4 := Fr.snoc X4 N0 g_r0
  have pre5 : ∀ t, Steps p.tables e below (T4.setTop (mkF m 11 #[rv r0, rv r1, iv p2, rv r3] [(.int p2), (.ref r0)])) t → Steps p.tables e below (s₁.setTop (entryFrame m #[(.ref r0), (.ref r1), (.int p2), (.ref r3)] 4)) t := by
    intro t kt
    refine pre3 _ ?_
    show Steps p.tables e below (T2.setTop (mkF m 6 #[rv r0, rv r1, iv p2, rv r3] [(.ref r1), (.ref r0)])) _
    refine st4 _ ?_
    show Steps p.tables e below (T4.setTop (mkF m 9 #[rv r0, rv r1, iv p2, rv r3] [])) _
    refine XS.aloadN X4.here hx rfl (hb hby d9_9) rfl rfl ?_
    show Steps p.tables e below (T4.setTop (mkF m 10 #[rv r0, rv r1, iv p2, rv r3] [(.ref r0)])) _
    refine XS.iloadN X4.here hx rfl (hb hby d9_10) rfl ?_
    exact kt
  obtain ⟨T6, h6, X6, e6, W6, st6⟩ := putF X4 hx hZ hown (host := "") (Or.inl (hw _ (List.mem_of_getElem? (i := 49) rfl))) Via.refl e4 (F_certificateIndex_r0.other W4 (Or.inr (slot_ne (Or.inr (hw _ (List.mem_of_getElem? (i := 50) rfl))) (Or.inr (hw _ (List.mem_of_getElem? (i := 48) rfl))) (by decide) (t := .int) (t' := (.object "com/example/fair_witness/fairwitness/verifier/Reason")) (by decide) (by decide)))) (E_r0.wr W4) (Or.inr ⟨(hw _ (List.mem_of_getElem? (i := 50) rfl)), rfl, hnm⟩) (hw _ (List.mem_of_getElem? (i := 35) rfl)) (ty := .int) (by decide) rfl rfl (g := (mkF m 11 #[rv r0, rv r1, iv p2, rv r3] [(.int p2), (.ref r0)])) rfl rfl (hb hby d9_11)
  have Fw6 : Fld Z h6 r0 "com/example/fair_witness/fairwitness/verifier/DecodingFailure" "certificateIndex" "I" (.int p2) := (F_certificateIndex_r0.other W4 (Or.inr (slot_ne (Or.inr (hw _ (List.mem_of_getElem? (i := 50) rfl))) (Or.inr (hw _ (List.mem_of_getElem? (i := 48) rfl))) (by decide) (t := .int) (t' := (.object "com/example/fair_witness/fairwitness/verifier/Reason")) (by decide) (by decide)))).same W6
  have K6 : Keep h0 h6 [r0] := K4.wr W6 (Or.inl (List.mem_of_getElem? (i := 0) rfl))
  have N6 := Fr.snoc X6 N4 g_r0
  have pre7 : ∀ t, Steps p.tables e below (T6.setTop (mkF m 16 #[rv r0, rv r1, iv p2, rv r3] [(.ref r3), (.ref r0)])) t → Steps p.tables e below (s₁.setTop (entryFrame m #[(.ref r0), (.ref r1), (.int p2), (.ref r3)] 4)) t := by
    intro t kt
    refine pre5 _ ?_
    show Steps p.tables e below (T4.setTop (mkF m 11 #[rv r0, rv r1, iv p2, rv r3] [(.int p2), (.ref r0)])) _
    refine st6 _ ?_
    show Steps p.tables e below (T6.setTop (mkF m 14 #[rv r0, rv r1, iv p2, rv r3] [])) _
    refine XS.aloadN X6.here hx rfl (hb hby d9_14) rfl rfl ?_
    show Steps p.tables e below (T6.setTop (mkF m 15 #[rv r0, rv r1, iv p2, rv r3] [(.ref r0)])) _
    refine XS.aloadN X6.here hx rfl (hb hby d9_15) rfl rfl ?_
    exact kt
  obtain ⟨T8, h8, X8, e8, W8, st8⟩ := putF X6 hx hZ hown (host := "") (Or.inl (hw _ (List.mem_of_getElem? (i := 51) rfl))) Via.refl e6 ((F_detail_r0.other W4 (Or.inr (slot_ne (Or.inr (hw _ (List.mem_of_getElem? (i := 52) rfl))) (Or.inr (hw _ (List.mem_of_getElem? (i := 48) rfl))) (by decide) (t := (.object "java/lang/String")) (t' := (.object "com/example/fair_witness/fairwitness/verifier/Reason")) (by decide) (by decide)))).other W6 (Or.inr (slot_ne (Or.inr (hw _ (List.mem_of_getElem? (i := 52) rfl))) (Or.inr (hw _ (List.mem_of_getElem? (i := 50) rfl))) (by decide) (t := (.object "java/lang/String")) (t' := .int) (by decide) (by decide)))) ((E_r0.wr W4).wr W6) (Or.inr ⟨(hw _ (List.mem_of_getElem? (i := 52) rfl)), rfl, hnm⟩) (hw _ (List.mem_of_getElem? (i := 35) rfl)) (ty := (.object "java/lang/String")) (by decide) rfl rfl (g := (mkF m 16 #[rv r0, rv r1, iv p2, rv r3] [(.ref r3), (.ref r0)])) rfl rfl (hb hby d9_16)
  have Fw8 : Fld Z h8 r0 "com/example/fair_witness/fairwitness/verifier/DecodingFailure" "detail" "Ljava/lang/String;" (.ref r3) := ((F_detail_r0.other W4 (Or.inr (slot_ne (Or.inr (hw _ (List.mem_of_getElem? (i := 52) rfl))) (Or.inr (hw _ (List.mem_of_getElem? (i := 48) rfl))) (by decide) (t := (.object "java/lang/String")) (t' := (.object "com/example/fair_witness/fairwitness/verifier/Reason")) (by decide) (by decide)))).other W6 (Or.inr (slot_ne (Or.inr (hw _ (List.mem_of_getElem? (i := 52) rfl))) (Or.inr (hw _ (List.mem_of_getElem? (i := 50) rfl))) (by decide) (t := (.object "java/lang/String")) (t' := .int) (by decide) (by decide)))).same W8
  have K8 : Keep h0 h8 [r0] := K6.wr W8 (Or.inl (List.mem_of_getElem? (i := 0) rfl))
  have N8 := Fr.snoc X8 N6 g_r0
  have pre9 : ∀ t, Steps p.tables e below (T8.setTop (mkF m 19 #[rv r0, rv r1, iv p2, rv r3] [])) t → Steps p.tables e below (s₁.setTop (entryFrame m #[(.ref r0), (.ref r1), (.int p2), (.ref r3)] 4)) t := by
    intro t kt
    refine pre7 _ ?_
    show Steps p.tables e below (T6.setTop (mkF m 16 #[rv r0, rv r1, iv p2, rv r3] [(.ref r3), (.ref r0)])) _
    refine st8 _ ?_
    exact kt
  obtain ⟨fs, hr, hrun, hended, hW, hsame⟩ := X8.leave (v := none) (fun _ => rfl)
  refine ⟨_, _, pre9 _ ?_, hrun, hended, _, _, rfl, ?_, ⟨_, rfl⟩, hW, hsame.mono (by decide) (by decide)⟩
  · show Steps p.tables e below (T8.setTop (mkF m 19 #[rv r0, rv r1, iv p2, rv r3] [])) _
    exact X8.returnOut hx Bd.returns (hb hby d9_19) hr
  · show Q9 Z r0 r1 p2 r3 h0 n0 _ T8.heap _
    rw [e8]
    exact ⟨rfl, N8, K8, ((Fw4.other W6 (Or.inr (slot_ne (Or.inr (hw _ (List.mem_of_getElem? (i := 48) rfl))) (Or.inr (hw _ (List.mem_of_getElem? (i := 50) rfl))) (by decide) (t := (.object "com/example/fair_witness/fairwitness/verifier/Reason")) (t' := .int) (by decide) (by decide)))).other W8 (Or.inr (slot_ne (Or.inr (hw _ (List.mem_of_getElem? (i := 48) rfl))) (Or.inr (hw _ (List.mem_of_getElem? (i := 52) rfl))) (by decide) (t := (.object "com/example/fair_witness/fairwitness/verifier/Reason")) (t' := (.object "java/lang/String")) (by decide) (by decide)))), (Fw6.other W8 (Or.inr (slot_ne (Or.inr (hw _ (List.mem_of_getElem? (i := 50) rfl))) (Or.inr (hw _ (List.mem_of_getElem? (i := 52) rfl))) (by decide) (t := .int) (t' := (.object "java/lang/String")) (by decide) (by decide)))), Fw8⟩
def own_la11 (s0 : Int32) (t0 : Int32) : Int32 := (if s0 = t0 then (1 : Int32) else (0 : Int32))
theorem d16_0 : decode jdk_43_method_13_code 0 = .ok (.aload_n 0, 1) := by decide +kernel
theorem d16_1 : decode jdk_43_method_13_code 1 = .ok (.arraylength, 1) := by decide +kernel
theorem d16_2 : decode jdk_43_method_13_code 2 = .ok (.aload_n 1, 1) := by decide +kernel
theorem d16_3 : decode jdk_43_method_13_code 3 = .ok (.arraylength, 1) := by decide +kernel
theorem d16_4 : decode jdk_43_method_13_code 4 = .ok (.if_icmp .ne 30, 3) := by decide +kernel
theorem d16_7 : decode jdk_43_method_13_code 7 = .ok (.iconst 0, 1) := by decide +kernel
theorem d16_8 : decode jdk_43_method_13_code 8 = .ok (.istore_n 2, 1) := by decide +kernel
theorem d16_9 : decode jdk_43_method_13_code 9 = .ok (.iload_n 2, 1) := by decide +kernel
theorem d16_10 : decode jdk_43_method_13_code 10 = .ok (.aload_n 0, 1) := by decide +kernel
theorem d16_11 : decode jdk_43_method_13_code 11 = .ok (.arraylength, 1) := by decide +kernel
theorem d16_12 : decode jdk_43_method_13_code 12 = .ok (.if_icmp .ge 20, 3) := by decide +kernel
theorem d16_15 : decode jdk_43_method_13_code 15 = .ok (.aload_n 0, 1) := by decide +kernel
theorem d16_16 : decode jdk_43_method_13_code 16 = .ok (.iload_n 2, 1) := by decide +kernel
theorem d16_17 : decode jdk_43_method_13_code 17 = .ok (.baload, 1) := by decide +kernel
theorem d16_18 : decode jdk_43_method_13_code 18 = .ok (.aload_n 1, 1) := by decide +kernel
theorem d16_19 : decode jdk_43_method_13_code 19 = .ok (.iload_n 2, 1) := by decide +kernel
theorem d16_20 : decode jdk_43_method_13_code 20 = .ok (.baload, 1) := by decide +kernel
theorem d16_21 : decode jdk_43_method_13_code 21 = .ok (.if_icmp .eq 5, 3) := by decide +kernel
theorem d16_26 : decode jdk_43_method_13_code 26 = .ok (.iinc 2 1, 3) := by decide +kernel
theorem d16_29 : decode jdk_43_method_13_code 29 = .ok (.goto (-20), 3) := by decide +kernel
theorem d16_32 : decode jdk_43_method_13_code 32 = .ok (.iconst 1, 1) := by decide +kernel
theorem d16_33 : decode jdk_43_method_13_code 33 = .ok (.ireturn, 1) := by decide +kernel
theorem d16_24 : decode jdk_43_method_13_code 24 = .ok (.iconst 0, 1) := by decide +kernel
theorem d16_25 : decode jdk_43_method_13_code 25 = .ok (.ireturn, 1) := by decide +kernel
theorem ef_16v11 (m : MethodId) (x0 : Addr) (x1 : Addr) : entryFrame m #[(.ref x0), (.ref x1)] 3 = mkF m 0 #[.val (.ref x0), .val (.ref x1), .unset] [] := by first | (simp [entryFrame, mkF, argsToLocals, Value.category]; done) | rfl
def Q16v11 (Z : State) (r0 : Addr) (r1 : Addr) (k1 : ClassId) (k2 : ClassId) (s0 : Int32) (t0 : Int32) (h0 : Heap) (n0 : Nat) (v : Option Value) (h : Heap) (L : List Loc) : Prop := v = some (.int (own_la11 s0 t0)) ∧ Fr n0 L ∧ h = h0
set_option maxRecDepth 65536 in
set_option maxHeartbeats 40000000 in
theorem rm16v11 (l : Launch) (Z : State) (a0 : Array Value) (hw : ∀ d ∈ tables_1, d.before a0 Z = true) (ws : List Jvm.Cond) (r0 : Addr) (r1 : Addr) (k1 : ClassId) (k2 : ClassId) (s0 : Int32) (t0 : Int32) (h0 : Heap) (n0 : Nat) (Z0 : n0 ≤ h0.size) (V_r0 : Arv Z h0 r0 k1 .byte (1 : Int32) [(.int s0)] (.int (0 : Int32))) (V_r1 : Arv Z h0 r1 k2 .byte (1 : Int32) [(.int t0)] (.int (0 : Int32))) :
    MetFree l (⟨"java/lang/StringLatin1", "equals", "([B[B)Z"⟩ : MethodName) (head1 (Jvm.Cond.code (⟨"java/lang/StringLatin1", "equals", "([B[B)Z"⟩ : MethodName) jdk_43_method_13_code 3 (some .boolean) :: ws) ({ frames := 0, cells := 0, slots := 0, locals := 0 } : Room)) (fun a U => a = #[(.ref r0), (.ref r1)] ∧ Z.Warmed39 U.vm ∧ U.heap = h0) (fun _ _ _ _ _ => True) (fun _ U o U' => ∃ v L, o = .returned v ∧ Q16v11 Z r0 r1 k1 k2 s0 t0 h0 n0 v U'.heap L ∧ FrameEnd U o U' L ({ frames := 0, cells := 0, slots := 0, locals := 0 } : Room).cells ({ frames := 0, cells := 0, slots := 0, locals := 0 } : Room).slots) := by
  refine MetFree.of_bodySF (plainFor_of_name pn0) hisR ?_
  intro p e s m args below meth c s₁ Bd hml0 hP hK
  obtain ⟨rfl, hZ, hh⟩ := hP
  have hx := Bd.exec
  have hby := Bd.bytes
  have hml : c.maxLocals = 3 := hml0
  have hown : s.vm.findClass "java/lang/StringLatin1" = some m.cls := findClass_of_methodNamed Bd.named
  have hnm := (name_of_methodNamed Bd.named Bd.method).1
  have X0 : Stand p l e ({ frames := 0, cells := 0, slots := 0, locals := 0 } : Room) s m #[(.ref r0), (.ref r1)] below meth c s₁ [] 0 0 := Stand.of_body Bd
  have e0 : s₁.heap = h0 := by rw [← hh, Bd.state]; rfl
  have N0 := Fr.nil n0
  have pre0 : ∀ t, Steps p.tables e below (s₁.setTop (mkF m 0 #[rv r0, rv r1, .unset] [])) t → Steps p.tables e below (s₁.setTop (entryFrame m #[(.ref r0), (.ref r1)] 3)) t := fun t k => castTop (ef_16v11 m r0 r1) k
  obtain ⟨cl1, Ar1, -, S1, M1, -, -⟩ := id V_r0
  obtain ⟨cl2, Ar2, -, S2, M2, -, -⟩ := id V_r1
  obtain ⟨cl3, Ar3, -, S3, M3, -, -⟩ := id V_r0
  obtain ⟨cl4, Ar4, q4, S4, M4, H4, G4⟩ := id V_r0
  have hin4 : ¬ ((0 : Int32) < 0 ∨ cl4.slots.size ≤ ((0 : Int32)).toNatClampNeg) := inb_of S4 ⟨by decide, by decide⟩
  have hat4 : cl4.slots[((0 : Int32)).toNatClampNeg]? = some (.int s0) := H4.at hin4 rfl
  obtain ⟨cl5, Ar5, q5, S5, M5, H5, G5⟩ := id V_r1
  have hin5 : ¬ ((0 : Int32) < 0 ∨ cl5.slots.size ≤ ((0 : Int32)).toNatClampNeg) := inb_of S5 ⟨by decide, by decide⟩
  have hat5 : cl5.slots[((0 : Int32)).toNatClampNeg]? = some (.int t0) := H5.at hin5 rfl
  have pre6 : ∀ t, Steps p.tables e below (s₁.setTop (mkF m 21 #[rv r0, rv r1, iv (0 : Int32)] [(.int t0), (.int s0)])) t → Steps p.tables e below (s₁.setTop (entryFrame m #[(.ref r0), (.ref r1)] 3)) t := by
    intro t kt
    refine pre0 _ ?_
    show Steps p.tables e below (s₁.setTop (mkF m 0 #[rv r0, rv r1, .unset] [])) _
    refine XS.aloadN X0.here hx rfl (hb hby d16_0) rfl rfl ?_
    show Steps p.tables e below (s₁.setTop (mkF m 1 #[rv r0, rv r1, .unset] [(.ref r0)])) _
    refine X0.arraylength hx (by rw [e0]; exact Ar1.1) (State.isArrayOf_alike hZ.alike Ar1.2.1) (g := (mkF m 1 #[rv r0, rv r1, .unset] [(.ref r0)])) rfl rfl (hb hby d16_1) _ ?_
    rw [len_of S1 M1]
    show Steps p.tables e below (s₁.setTop (mkF m 2 #[rv r0, rv r1, .unset] [(.int (1 : Int32))])) _
    refine XS.aloadN X0.here hx rfl (hb hby d16_2) rfl rfl ?_
    show Steps p.tables e below (s₁.setTop (mkF m 3 #[rv r0, rv r1, .unset] [(.ref r1), (.int (1 : Int32))])) _
    refine X0.arraylength hx (by rw [e0]; exact Ar2.1) (State.isArrayOf_alike hZ.alike Ar2.2.1) (g := (mkF m 3 #[rv r0, rv r1, .unset] [(.ref r1), (.int (1 : Int32))])) rfl rfl (hb hby d16_3) _ ?_
    rw [len_of S2 M2]
    show Steps p.tables e below (s₁.setTop (mkF m 4 #[rv r0, rv r1, .unset] [(.int (1 : Int32)), (.int (1 : Int32))])) _
    refine XS.icmpNo X0.here hx rfl (hb hby d16_4) rfl (teq (by decide)).2 ?_
    show Steps p.tables e below (s₁.setTop (mkF m 7 #[rv r0, rv r1, .unset] [])) _
    refine XS.iconst X0.here hx rfl (hb hby d16_7) ?_
    show Steps p.tables e below (s₁.setTop (mkF m 8 #[rv r0, rv r1, .unset] [(.int (0 : Int32))])) _
    refine XS.istoreN X0.here hx rfl (hb hby d16_8) rfl (l' := #[rv r0, rv r1, iv (0 : Int32)]) rfl ?_
    show Steps p.tables e below (s₁.setTop (mkF m 9 #[rv r0, rv r1, iv (0 : Int32)] [])) _
    refine XS.iloadN X0.here hx rfl (hb hby d16_9) rfl ?_
    show Steps p.tables e below (s₁.setTop (mkF m 10 #[rv r0, rv r1, iv (0 : Int32)] [(.int (0 : Int32))])) _
    refine XS.aloadN X0.here hx rfl (hb hby d16_10) rfl rfl ?_
    show Steps p.tables e below (s₁.setTop (mkF m 11 #[rv r0, rv r1, iv (0 : Int32)] [(.ref r0), (.int (0 : Int32))])) _
    refine X0.arraylength hx (by rw [e0]; exact Ar3.1) (State.isArrayOf_alike hZ.alike Ar3.2.1) (g := (mkF m 11 #[rv r0, rv r1, iv (0 : Int32)] [(.ref r0), (.int (0 : Int32))])) rfl rfl (hb hby d16_11) _ ?_
    rw [len_of S3 M3]
    show Steps p.tables e below (s₁.setTop (mkF m 12 #[rv r0, rv r1, iv (0 : Int32)] [(.int (1 : Int32)), (.int (0 : Int32))])) _
    refine XS.icmpNo X0.here hx rfl (hb hby d16_12) rfl (tlt (by decide)).2.1 ?_
    show Steps p.tables e below (s₁.setTop (mkF m 15 #[rv r0, rv r1, iv (0 : Int32)] [])) _
    refine XS.aloadN X0.here hx rfl (hb hby d16_15) rfl rfl ?_
    show Steps p.tables e below (s₁.setTop (mkF m 16 #[rv r0, rv r1, iv (0 : Int32)] [(.ref r0)])) _
    refine XS.iloadN X0.here hx rfl (hb hby d16_16) rfl ?_
    show Steps p.tables e below (s₁.setTop (mkF m 17 #[rv r0, rv r1, iv (0 : Int32)] [(.int (0 : Int32)), (.ref r0)])) _
    refine X0.baloadBytes hx (j := (0 : Int32)) (v := (.int s0)) (by rw [e0]; exact Ar4.1) (State.isArrayOf_alike hZ.alike Ar4.2.1) Ar4.2.2 hin4 hat4 (g := (mkF m 17 #[rv r0, rv r1, iv (0 : Int32)] [(.int (0 : Int32)), (.ref r0)])) rfl rfl (hb hby d16_17) _ ?_
    show Steps p.tables e below (s₁.setTop (mkF m 18 #[rv r0, rv r1, iv (0 : Int32)] [(.int s0)])) _
    refine XS.aloadN X0.here hx rfl (hb hby d16_18) rfl rfl ?_
    show Steps p.tables e below (s₁.setTop (mkF m 19 #[rv r0, rv r1, iv (0 : Int32)] [(.ref r1), (.int s0)])) _
    refine XS.iloadN X0.here hx rfl (hb hby d16_19) rfl ?_
    show Steps p.tables e below (s₁.setTop (mkF m 20 #[rv r0, rv r1, iv (0 : Int32)] [(.int (0 : Int32)), (.ref r1), (.int s0)])) _
    refine X0.baloadBytes hx (j := (0 : Int32)) (v := (.int t0)) (by rw [e0]; exact Ar5.1) (State.isArrayOf_alike hZ.alike Ar5.2.1) Ar5.2.2 hin5 hat5 (g := (mkF m 20 #[rv r0, rv r1, iv (0 : Int32)] [(.int (0 : Int32)), (.ref r1), (.int s0)])) rfl rfl (hb hby d16_20) _ ?_
    exact kt
  by_cases hc21 : s0 = t0
  · obtain ⟨cl7, Ar7, -, S7, M7, -, -⟩ := id V_r0
    have pre8 : ∀ t, Steps p.tables e below (s₁.setTop (mkF m 33 #[rv r0, rv r1, iv (1 : Int32)] [(.int (1 : Int32))])) t → Steps p.tables e below (s₁.setTop (entryFrame m #[(.ref r0), (.ref r1)] 3)) t := by
      intro t kt
      refine pre6 _ ?_
      show Steps p.tables e below (s₁.setTop (mkF m 21 #[rv r0, rv r1, iv (0 : Int32)] [(.int t0), (.int s0)])) _
      refine XS.icmpYes X0.here hx rfl (pc0 := 21) (pc' := 26) rfl (hb hby d16_21) rfl (teq hc21).1 (by decide) (by decide) ?_
      show Steps p.tables e below (s₁.setTop (mkF m 26 #[rv r0, rv r1, iv (0 : Int32)] [])) _
      refine XS.iinc X0.here hx rfl (hb hby d16_26) rfl (l' := #[rv r0, rv r1, iv ((0 : Int32) + (1 : Int32))]) rfl ?_
      show Steps p.tables e below (s₁.setTop (mkF m 29 #[rv r0, rv r1, iv ((0 : Int32) + (1 : Int32))] [])) _
      rw [show ((0 : Int32) + (1 : Int32)) = (1 : Int32) from (by decide)]
      show Steps p.tables e below (s₁.setTop (mkF m 29 #[rv r0, rv r1, iv (1 : Int32)] [])) _
      refine XS.goto X0.here hx rfl (pc0 := 29) (pc' := 9) rfl (hb hby d16_29) (by decide) (by decide) ?_
      show Steps p.tables e below (s₁.setTop (mkF m 9 #[rv r0, rv r1, iv (1 : Int32)] [])) _
      refine XS.iloadN X0.here hx rfl (hb hby d16_9) rfl ?_
      show Steps p.tables e below (s₁.setTop (mkF m 10 #[rv r0, rv r1, iv (1 : Int32)] [(.int (1 : Int32))])) _
      refine XS.aloadN X0.here hx rfl (hb hby d16_10) rfl rfl ?_
      show Steps p.tables e below (s₁.setTop (mkF m 11 #[rv r0, rv r1, iv (1 : Int32)] [(.ref r0), (.int (1 : Int32))])) _
      refine X0.arraylength hx (by rw [e0]; exact Ar7.1) (State.isArrayOf_alike hZ.alike Ar7.2.1) (g := (mkF m 11 #[rv r0, rv r1, iv (1 : Int32)] [(.ref r0), (.int (1 : Int32))])) rfl rfl (hb hby d16_11) _ ?_
      rw [len_of S7 M7]
      show Steps p.tables e below (s₁.setTop (mkF m 12 #[rv r0, rv r1, iv (1 : Int32)] [(.int (1 : Int32)), (.int (1 : Int32))])) _
      refine XS.icmpYes X0.here hx rfl (pc0 := 12) (pc' := 32) rfl (hb hby d16_12) rfl (flt (by decide)).2.1 (by decide) (by decide) ?_
      show Steps p.tables e below (s₁.setTop (mkF m 32 #[rv r0, rv r1, iv (1 : Int32)] [])) _
      refine XS.iconst X0.here hx rfl (hb hby d16_32) ?_
      exact kt
    obtain ⟨fs, hr, hrun, hended, hW, hsame⟩ := X0.leave (v := some (.int (1 : Int32))) (fun h => by rw [Bd.returns] at h; cases h)
    refine ⟨_, _, pre8 _ ?_, hrun, hended, _, _, rfl, ?_, ⟨_, rfl⟩, hW, hsame.mono (by decide) (by decide)⟩
    · show Steps p.tables e below (s₁.setTop (mkF m 33 #[rv r0, rv r1, iv (1 : Int32)] [(.int (1 : Int32))])) _
      exact retN X0 hx (t := .boolean) Bd.returns (by simp) (hb hby d16_33) hr
    · show Q16v11 Z r0 r1 k1 k2 s0 t0 h0 n0 _ s₁.heap _
      rw [e0]
      exact ⟨congrArg (fun z => some (Value.int z)) ((if_pos hc21).trans rfl).symm, N0, rfl⟩
  · have pre9 : ∀ t, Steps p.tables e below (s₁.setTop (mkF m 25 #[rv r0, rv r1, iv (0 : Int32)] [(.int (0 : Int32))])) t → Steps p.tables e below (s₁.setTop (entryFrame m #[(.ref r0), (.ref r1)] 3)) t := by
      intro t kt
      refine pre6 _ ?_
      show Steps p.tables e below (s₁.setTop (mkF m 21 #[rv r0, rv r1, iv (0 : Int32)] [(.int t0), (.int s0)])) _
      refine XS.icmpNo X0.here hx rfl (hb hby d16_21) rfl (feq hc21).1 ?_
      show Steps p.tables e below (s₁.setTop (mkF m 24 #[rv r0, rv r1, iv (0 : Int32)] [])) _
      refine XS.iconst X0.here hx rfl (hb hby d16_24) ?_
      exact kt
    obtain ⟨fs, hr, hrun, hended, hW, hsame⟩ := X0.leave (v := some (.int (0 : Int32))) (fun h => by rw [Bd.returns] at h; cases h)
    refine ⟨_, _, pre9 _ ?_, hrun, hended, _, _, rfl, ?_, ⟨_, rfl⟩, hW, hsame.mono (by decide) (by decide)⟩
    · show Steps p.tables e below (s₁.setTop (mkF m 25 #[rv r0, rv r1, iv (0 : Int32)] [(.int (0 : Int32))])) _
      exact retN X0 hx (t := .boolean) Bd.returns (by simp) (hb hby d16_25) hr
    · show Q16v11 Z r0 r1 k1 k2 s0 t0 h0 n0 _ s₁.heap _
      rw [e0]
      exact ⟨congrArg (fun z => some (Value.int z)) ((if_neg hc21).trans rfl).symm, N0, rfl⟩
def own_se11 (s0 : Int32) (t0 : Int32) : Int32 := if (own_la11 s0 t0) = (0 : Int32) then 0 else 1
theorem d15_0 : decode jdk_42_method_66_code 0 = .ok (.aload_n 0, 1) := by decide +kernel
theorem d15_1 : decode jdk_42_method_66_code 1 = .ok (.aload_n 1, 1) := by decide +kernel
theorem d15_2 : decode jdk_42_method_66_code 2 = .ok (.if_acmp .ne 5, 3) := by decide +kernel
theorem d15_7 : decode jdk_42_method_66_code 7 = .ok (.aload_n 1, 1) := by decide +kernel
theorem d15_8 : decode jdk_42_method_66_code 8 = .ok (.instanceof 10, 3) := by decide +kernel
theorem d15_11 : decode jdk_42_method_66_code 11 = .ok (.ifCond .eq 43, 3) := by decide +kernel
theorem d15_14 : decode jdk_42_method_66_code 14 = .ok (.aload_n 1, 1) := by decide +kernel
theorem d15_15 : decode jdk_42_method_66_code 15 = .ok (.checkcast 10, 3) := by decide +kernel
theorem d15_18 : decode jdk_42_method_66_code 18 = .ok (.astore_n 2, 1) := by decide +kernel
theorem d15_19 : decode jdk_42_method_66_code 19 = .ok (.getstatic 38, 3) := by decide +kernel
theorem d15_22 : decode jdk_42_method_66_code 22 = .ok (.ifCond .eq 14, 3) := by decide +kernel
theorem d15_25 : decode jdk_42_method_66_code 25 = .ok (.aload_n 0, 1) := by decide +kernel
theorem d15_26 : decode jdk_42_method_66_code 26 = .ok (.getfield 15, 3) := by decide +kernel
theorem d15_29 : decode jdk_42_method_66_code 29 = .ok (.aload_n 2, 1) := by decide +kernel
theorem d15_30 : decode jdk_42_method_66_code 30 = .ok (.getfield 15, 3) := by decide +kernel
theorem d15_33 : decode jdk_42_method_66_code 33 = .ok (.if_icmp .ne 21, 3) := by decide +kernel
theorem d15_36 : decode jdk_42_method_66_code 36 = .ok (.aload_n 0, 1) := by decide +kernel
theorem d15_37 : decode jdk_42_method_66_code 37 = .ok (.getfield 9, 3) := by decide +kernel
theorem d15_40 : decode jdk_42_method_66_code 40 = .ok (.aload_n 2, 1) := by decide +kernel
theorem d15_41 : decode jdk_42_method_66_code 41 = .ok (.getfield 9, 3) := by decide +kernel
theorem pd14 : parseMethodDescriptor "([B[B)Z" = some ⟨[(.array .byte), (.array .byte)], some .boolean⟩ := by decide +kernel
theorem d15_44 : decode jdk_42_method_66_code 44 = .ok (.invokestatic 541, 3) := by decide +kernel
theorem d15_47 : decode jdk_42_method_66_code 47 = .ok (.ifCond .eq 7, 3) := by decide +kernel
theorem d15_54 : decode jdk_42_method_66_code 54 = .ok (.iconst 0, 1) := by decide +kernel
theorem d15_55 : decode jdk_42_method_66_code 55 = .ok (.ireturn, 1) := by decide +kernel
theorem d15_50 : decode jdk_42_method_66_code 50 = .ok (.iconst 1, 1) := by decide +kernel
theorem d15_51 : decode jdk_42_method_66_code 51 = .ok (.goto 4, 3) := by decide +kernel
theorem ef_15v11 (m : MethodId) (x0 : Addr) (x1 : Addr) : entryFrame m #[(.ref x0), (.ref x1)] 3 = mkF m 0 #[.val (.ref x0), .val (.ref x1), .unset] [] := by first | (simp [entryFrame, mkF, argsToLocals, Value.category]; done) | rfl
def Q15v11 (Z : State) (r0 : Addr) (r1 : Addr) (y0 : Addr) (y1 : Addr) (k1 : ClassId) (k2 : ClassId) (s0 : Int32) (t0 : Int32) (cs : Int32) (h0 : Heap) (n0 : Nat) (v : Option Value) (h : Heap) (L : List Loc) : Prop := v = some (.int (own_se11 s0 t0)) ∧ Fr n0 L ∧ h = h0
set_option maxRecDepth 65536 in
set_option maxHeartbeats 40000000 in
theorem rm15v11 (l : Launch) (Z : State) (a0 : Array Value) (hw : ∀ d ∈ tables_1, d.before a0 Z = true) (ws : List Jvm.Cond) (r0 : Addr) (r1 : Addr) (y0 : Addr) (y1 : Addr) (k1 : ClassId) (k2 : ClassId) (s0 : Int32) (t0 : Int32) (cs : Int32) (h0 : Heap) (n0 : Nat) (Z0 : n0 ≤ h0.size) (O0 : Old Z n0 h0) (S_cs : Sta Z Z.heap "java/lang/String" "COMPACT_STRINGS" "Z" (.int cs)) (hcs : ¬ (cs = (0 : Int32))) (F_value_r0 : Fld Z h0 r0 "java/lang/String" "value" "[B" (.ref y0)) (F_coder_r0 : Fld Z h0 r0 "java/lang/String" "coder" "B" (.int (0 : Int32))) (E_r0 : Exa Z h0 r0 "java/lang/String") (V_y0 : Arv Z h0 y0 k1 .byte (1 : Int32) [(.int s0)] (.int (0 : Int32))) (F_value_r1 : Fld Z h0 r1 "java/lang/String" "value" "[B" (.ref y1)) (F_coder_r1 : Fld Z h0 r1 "java/lang/String" "coder" "B" (.int (0 : Int32))) (E_r1 : Exa Z h0 r1 "java/lang/String") (V_y1 : Arv Z h0 y1 k2 .byte (1 : Int32) [(.int t0)] (.int (0 : Int32))) (hne : r0 ≠ r1) :
    MetFree l (⟨"java/lang/String", "equals", "(Ljava/lang/Object;)Z"⟩ : MethodName) (head1 (Jvm.Cond.code (⟨"java/lang/String", "equals", "(Ljava/lang/Object;)Z"⟩ : MethodName) jdk_42_method_66_code 3 (some .boolean) :: ws) ({ frames := 1, cells := 0, slots := 0, locals := 14 } : Room)) (fun a U => a = #[(.ref r0), (.ref r1)] ∧ Z.Warmed39 U.vm ∧ U.heap = h0) (fun _ _ _ _ _ => True) (fun _ U o U' => ∃ v L, o = .returned v ∧ Q15v11 Z r0 r1 y0 y1 k1 k2 s0 t0 cs h0 n0 v U'.heap L ∧ FrameEnd U o U' L ({ frames := 1, cells := 0, slots := 0, locals := 14 } : Room).cells ({ frames := 1, cells := 0, slots := 0, locals := 14 } : Room).slots) := by
  refine MetFree.of_bodySF (plainFor_of_name pn1) hisR ?_
  intro p e s m args below meth c s₁ Bd hml0 hP hK
  obtain ⟨rfl, hZ, hh⟩ := hP
  have hx := Bd.exec
  have hby := Bd.bytes
  have hml : c.maxLocals = 3 := hml0
  have hown : s.vm.findClass "java/lang/String" = some m.cls := findClass_of_methodNamed Bd.named
  have hnm := (name_of_methodNamed Bd.named Bd.method).1
  have X0 : Stand p l e ({ frames := 1, cells := 0, slots := 0, locals := 14 } : Room) s m #[(.ref r0), (.ref r1)] below meth c s₁ [] 0 0 := Stand.of_body Bd
  have e0 : s₁.heap = h0 := by rw [← hh, Bd.state]; rfl
  have N0 := Fr.nil n0
  have pre0 : ∀ t, Steps p.tables e below (s₁.setTop (mkF m 0 #[rv r0, rv r1, .unset] [])) t → Steps p.tables e below (s₁.setTop (entryFrame m #[(.ref r0), (.ref r1)] 3)) t := fun t k => castTop (ef_15v11 m r0 r1) k
  have pre1 : ∀ t, Steps p.tables e below (s₁.setTop (mkF m 8 #[rv r0, rv r1, .unset] [(.ref r1)])) t → Steps p.tables e below (s₁.setTop (entryFrame m #[(.ref r0), (.ref r1)] 3)) t := by
    intro t kt
    refine pre0 _ ?_
    show Steps p.tables e below (s₁.setTop (mkF m 0 #[rv r0, rv r1, .unset] [])) _
    refine XS.aloadN X0.here hx rfl (hb hby d15_0) rfl rfl ?_
    show Steps p.tables e below (s₁.setTop (mkF m 1 #[rv r0, rv r1, .unset] [(.ref r0)])) _
    refine XS.aloadN X0.here hx rfl (hb hby d15_1) rfl rfl ?_
    show Steps p.tables e below (s₁.setTop (mkF m 2 #[rv r0, rv r1, .unset] [(.ref r1), (.ref r0)])) _
    refine Jvm.RoadKit.acmp (g := (mkF m 2 #[rv r0, rv r1, .unset] [(.ref r1), (.ref r0)])) X0 hx rfl rfl rfl (pc0 := 2) (pc' := 7) (same := false) rfl (hb hby d15_2) rfl (decide_eq_false fun q => hne (Value.ref.inj q)) (by decide) (by decide) ?_
    show Steps p.tables e below (s₁.setTop (mkF m 7 #[rv r0, rv r1, .unset] [])) _
    refine XS.aloadN X0.here hx rfl (hb hby d15_7) rfl rfl ?_
    exact kt
  obtain ⟨T2, X2, e2, st2⟩ := instY X0 hx hZ hown (hw _ (List.mem_of_getElem? (i := 65) rfl)) e0 (Ins.self E_r1) (g := (mkF m 8 #[rv r0, rv r1, .unset] [(.ref r1)])) rfl rfl (hb hby d15_8)
  have pre3 : ∀ t, Steps p.tables e below (T2.setTop (mkF m 15 #[rv r0, rv r1, .unset] [(.ref r1)])) t → Steps p.tables e below (s₁.setTop (entryFrame m #[(.ref r0), (.ref r1)] 3)) t := by
    intro t kt
    refine pre1 _ ?_
    show Steps p.tables e below (s₁.setTop (mkF m 8 #[rv r0, rv r1, .unset] [(.ref r1)])) _
    refine st2 _ ?_
    show Steps p.tables e below (T2.setTop (mkF m 11 #[rv r0, rv r1, .unset] [(.int (1 : Int32))])) _
    refine XS.ifNo X2.here hx rfl (hb hby d15_11) rfl ((if0 _ _).trans (feq (by decide)).1) ?_
    show Steps p.tables e below (T2.setTop (mkF m 14 #[rv r0, rv r1, .unset] [])) _
    refine XS.aloadN X2.here hx rfl (hb hby d15_14) rfl rfl ?_
    exact kt
  obtain ⟨T4, X4, e4, st4⟩ := castY X2 hx hZ hown (hw _ (List.mem_of_getElem? (i := 65) rfl)) e2 (Ins.self E_r1) (g := (mkF m 15 #[rv r0, rv r1, .unset] [(.ref r1)])) rfl rfl (hb hby d15_15)
  have pre5 : ∀ t, Steps p.tables e below (T4.setTop (mkF m 19 #[rv r0, rv r1, rv r1] [])) t → Steps p.tables e below (s₁.setTop (entryFrame m #[(.ref r0), (.ref r1)] 3)) t := by
    intro t kt
    refine pre3 _ ?_
    show Steps p.tables e below (T2.setTop (mkF m 15 #[rv r0, rv r1, .unset] [(.ref r1)])) _
    refine st4 _ ?_
    show Steps p.tables e below (T4.setTop (mkF m 18 #[rv r0, rv r1, .unset] [(.ref r1)])) _
    refine XS.astoreN X4.here hx rfl (hb hby d15_18) rfl rfl (l' := #[rv r0, rv r1, rv r1]) rfl ?_
    exact kt
  obtain ⟨T6, X6, e6, st6⟩ := getS2 X4 hx hZ hown (host := "") (Or.inl (hw _ (List.mem_of_getElem? (i := 18) rfl))) Via.refl e4 (S_cs.ext (O0.keep (Keep.refl h0 []) all0).2) (g := (mkF m 19 #[rv r0, rv r1, rv r1] [])) rfl (hb hby d15_19)
  have pre8 : ∀ t, Steps p.tables e below (T6.setTop (mkF m 22 #[rv r0, rv r1, rv r1] [(.int cs)])) t → Steps p.tables e below (s₁.setTop (entryFrame m #[(.ref r0), (.ref r1)] 3)) t := by
    intro t kt
    refine pre5 _ ?_
    show Steps p.tables e below (T4.setTop (mkF m 19 #[rv r0, rv r1, rv r1] [])) _
    refine st6 _ ?_
    exact kt
  have hc22_7 : ¬ (cs = (0 : Int32)) := hcs
  have pre9 : ∀ t, Steps p.tables e below (T6.setTop (mkF m 26 #[rv r0, rv r1, rv r1] [(.ref r0)])) t → Steps p.tables e below (s₁.setTop (entryFrame m #[(.ref r0), (.ref r1)] 3)) t := by
    intro t kt
    refine pre8 _ ?_
    show Steps p.tables e below (T6.setTop (mkF m 22 #[rv r0, rv r1, rv r1] [(.int cs)])) _
    refine XS.ifNo X6.here hx rfl (hb hby d15_22) rfl ((if0 _ _).trans (feq hc22_7).1) ?_
    show Steps p.tables e below (T6.setTop (mkF m 25 #[rv r0, rv r1, rv r1] [])) _
    refine XS.aloadN X6.here hx rfl (hb hby d15_25) rfl rfl ?_
    exact kt
  obtain ⟨T10, X10, e10, st10⟩ := getF X6 hx hZ hown (host := "") (Or.inl (hw _ (List.mem_of_getElem? (i := 30) rfl))) Via.refl e6 F_coder_r0 (g := (mkF m 26 #[rv r0, rv r1, rv r1] [(.ref r0)])) rfl rfl (hb hby d15_26)
  have pre11 : ∀ t, Steps p.tables e below (T10.setTop (mkF m 30 #[rv r0, rv r1, rv r1] [(.ref r1), (.int (0 : Int32))])) t → Steps p.tables e below (s₁.setTop (entryFrame m #[(.ref r0), (.ref r1)] 3)) t := by
    intro t kt
    refine pre9 _ ?_
    show Steps p.tables e below (T6.setTop (mkF m 26 #[rv r0, rv r1, rv r1] [(.ref r0)])) _
    refine st10 _ ?_
    show Steps p.tables e below (T10.setTop (mkF m 29 #[rv r0, rv r1, rv r1] [(.int (0 : Int32))])) _
    refine XS.aloadN X10.here hx rfl (hb hby d15_29) rfl rfl ?_
    exact kt
  obtain ⟨T12, X12, e12, st12⟩ := getF X10 hx hZ hown (host := "") (Or.inl (hw _ (List.mem_of_getElem? (i := 30) rfl))) Via.refl e10 F_coder_r1 (g := (mkF m 30 #[rv r0, rv r1, rv r1] [(.ref r1), (.int (0 : Int32))])) rfl rfl (hb hby d15_30)
  have pre13 : ∀ t, Steps p.tables e below (T12.setTop (mkF m 37 #[rv r0, rv r1, rv r1] [(.ref r0)])) t → Steps p.tables e below (s₁.setTop (entryFrame m #[(.ref r0), (.ref r1)] 3)) t := by
    intro t kt
    refine pre11 _ ?_
    show Steps p.tables e below (T10.setTop (mkF m 30 #[rv r0, rv r1, rv r1] [(.ref r1), (.int (0 : Int32))])) _
    refine st12 _ ?_
    show Steps p.tables e below (T12.setTop (mkF m 33 #[rv r0, rv r1, rv r1] [(.int (0 : Int32)), (.int (0 : Int32))])) _
    refine XS.icmpNo X12.here hx rfl (hb hby d15_33) rfl (teq (by decide)).2 ?_
    show Steps p.tables e below (T12.setTop (mkF m 36 #[rv r0, rv r1, rv r1] [])) _
    refine XS.aloadN X12.here hx rfl (hb hby d15_36) rfl rfl ?_
    exact kt
  obtain ⟨T14, X14, e14, st14⟩ := getF X12 hx hZ hown (host := "") (Or.inl (hw _ (List.mem_of_getElem? (i := 32) rfl))) Via.refl e12 F_value_r0 (g := (mkF m 37 #[rv r0, rv r1, rv r1] [(.ref r0)])) rfl rfl (hb hby d15_37)
  have pre15 : ∀ t, Steps p.tables e below (T14.setTop (mkF m 41 #[rv r0, rv r1, rv r1] [(.ref r1), (.ref y0)])) t → Steps p.tables e below (s₁.setTop (entryFrame m #[(.ref r0), (.ref r1)] 3)) t := by
    intro t kt
    refine pre13 _ ?_
    show Steps p.tables e below (T12.setTop (mkF m 37 #[rv r0, rv r1, rv r1] [(.ref r0)])) _
    refine st14 _ ?_
    show Steps p.tables e below (T14.setTop (mkF m 40 #[rv r0, rv r1, rv r1] [(.ref y0)])) _
    refine XS.aloadN X14.here hx rfl (hb hby d15_40) rfl rfl ?_
    exact kt
  obtain ⟨T16, X16, e16, st16⟩ := getF X14 hx hZ hown (host := "") (Or.inl (hw _ (List.mem_of_getElem? (i := 32) rfl))) Via.refl e14 F_value_r1 (g := (mkF m 41 #[rv r0, rv r1, rv r1] [(.ref r1), (.ref y0)])) rfl rfl (hb hby d15_41)
  have pre17 : ∀ t, Steps p.tables e below (T16.setTop (mkF m 44 #[rv r0, rv r1, rv r1] [(.ref y1), (.ref y0)])) t → Steps p.tables e below (s₁.setTop (entryFrame m #[(.ref r0), (.ref r1)] 3)) t := by
    intro t kt
    refine pre15 _ ?_
    show Steps p.tables e below (T14.setTop (mkF m 41 #[rv r0, rv r1, rv r1] [(.ref r1), (.ref y0)])) _
    refine st16 _ ?_
    exact kt
  obtain ⟨_, _, ⟨T18, L18, k18, n18⟩, -, X18, ⟨Lc18, hQ18, l18, y18, z18⟩, st18⟩ := Jvm.LawKit.callS X16 hx (y := (⟨"java/lang/StringLatin1", "equals", "([B[B)Z"⟩ : MethodName)) hown (mvT hZ (hw _ (List.mem_of_getElem? (i := 83) rfl))) (mvT hZ (hw _ (List.mem_of_getElem? (i := 84) rfl))) (mvT hZ (hw _ (List.mem_of_getElem? (i := 63) rfl))) (mvT hZ (hw _ (List.mem_of_getElem? (i := 85) rfl))) (by decide) (backOf (W := 0) (rm16v11 l Z a0 hw [] y0 y1 k1 k2 s0 t0 h0 n0 (Nat.le_trans Z0 (Keep.refl h0 []).1) V_y0 V_y1) hZ (hw _ (List.mem_of_getElem? (i := 85) rfl)) (hw _ (List.mem_of_getElem? (i := 63) rfl)) (by decide) (by decide)) (g := (mkF m 44 #[rv r0, rv r1, rv r1] [(.ref y1), (.ref y0)])) rfl (by rw [hml]; rfl) (argsL := [(.ref y0), (.ref y1)]) (rest := []) (lenOf pd14 rfl) rfl (by show 2 * 0 + _ ≤ _; exact Nat.le_of_eq rfl) (hb hby d15_44) (fun _ _ => ⟨rfl, e16, (by decide : 0 + 0 ≤ _), (by decide : 0 + 0 ≤ _)⟩)
  dsimp only [Pt.U, Pt.locs, Pt.cells, Pt.slots] at X18 l18 y18 z18 st18 hQ18
  subst l18 y18 z18
  obtain ⟨rfl, N18q, hh18⟩ := hQ18
  have N18 := Fr.app N0 N18q
  have pre19 : ∀ t, Steps p.tables e below (T18.setTop (mkF m 47 #[rv r0, rv r1, rv r1] [(.int (own_la11 s0 t0))])) t → Steps p.tables e below (s₁.setTop (entryFrame m #[(.ref r0), (.ref r1)] 3)) t := by
    intro t kt
    refine pre17 _ ?_
    show Steps p.tables e below (T16.setTop (mkF m 44 #[rv r0, rv r1, rv r1] [(.ref y1), (.ref y0)])) _
    refine st18 _ ?_
    exact kt
  by_cases hc47 : (own_la11 s0 t0) = (0 : Int32)
  · have pre20 : ∀ t, Steps p.tables e below (T18.setTop (mkF m 55 #[rv r0, rv r1, rv r1] [(.int (0 : Int32))])) t → Steps p.tables e below (s₁.setTop (entryFrame m #[(.ref r0), (.ref r1)] 3)) t := by
      intro t kt
      refine pre19 _ ?_
      show Steps p.tables e below (T18.setTop (mkF m 47 #[rv r0, rv r1, rv r1] [(.int (own_la11 s0 t0))])) _
      refine XS.ifYes X18.here hx rfl (pc0 := 47) (pc' := 54) rfl (hb hby d15_47) rfl ((if0 _ _).trans (teq hc47).1) (by decide) (by decide) ?_
      show Steps p.tables e below (T18.setTop (mkF m 54 #[rv r0, rv r1, rv r1] [])) _
      refine XS.iconst X18.here hx rfl (hb hby d15_54) ?_
      exact kt
    obtain ⟨fs, hr, hrun, hended, hW, hsame⟩ := X18.leave (v := some (.int (0 : Int32))) (fun h => by rw [Bd.returns] at h; cases h)
    refine ⟨_, _, pre20 _ ?_, hrun, hended, _, _, rfl, ?_, ⟨_, rfl⟩, hW, hsame.mono (by decide) (by decide)⟩
    · show Steps p.tables e below (T18.setTop (mkF m 55 #[rv r0, rv r1, rv r1] [(.int (0 : Int32))])) _
      exact retN X18 hx (t := .boolean) Bd.returns (by simp) (hb hby d15_55) hr
    · show Q15v11 Z r0 r1 y0 y1 k1 k2 s0 t0 cs h0 n0 _ T18.heap _
      rw [hh18]
      exact ⟨congrArg (fun z => some (Value.int z)) ((if_pos hc47).trans rfl).symm, N18, rfl⟩
  · have pre21 : ∀ t, Steps p.tables e below (T18.setTop (mkF m 55 #[rv r0, rv r1, rv r1] [(.int (1 : Int32))])) t → Steps p.tables e below (s₁.setTop (entryFrame m #[(.ref r0), (.ref r1)] 3)) t := by
      intro t kt
      refine pre19 _ ?_
      show Steps p.tables e below (T18.setTop (mkF m 47 #[rv r0, rv r1, rv r1] [(.int (own_la11 s0 t0))])) _
      refine XS.ifNo X18.here hx rfl (hb hby d15_47) rfl ((if0 _ _).trans (feq hc47).1) ?_
      show Steps p.tables e below (T18.setTop (mkF m 50 #[rv r0, rv r1, rv r1] [])) _
      refine XS.iconst X18.here hx rfl (hb hby d15_50) ?_
      show Steps p.tables e below (T18.setTop (mkF m 51 #[rv r0, rv r1, rv r1] [(.int (1 : Int32))])) _
      refine XS.goto X18.here hx rfl (pc0 := 51) (pc' := 55) rfl (hb hby d15_51) (by decide) (by decide) ?_
      exact kt
    obtain ⟨fs, hr, hrun, hended, hW, hsame⟩ := X18.leave (v := some (.int (1 : Int32))) (fun h => by rw [Bd.returns] at h; cases h)
    refine ⟨_, _, pre21 _ ?_, hrun, hended, _, _, rfl, ?_, ⟨_, rfl⟩, hW, hsame.mono (by decide) (by decide)⟩
    · show Steps p.tables e below (T18.setTop (mkF m 55 #[rv r0, rv r1, rv r1] [(.int (1 : Int32))])) _
      exact retN X18 hx (t := .boolean) Bd.returns (by simp) (hb hby d15_55) hr
    · show Q15v11 Z r0 r1 y0 y1 k1 k2 s0 t0 cs h0 n0 _ T18.heap _
      rw [hh18]
      exact ⟨congrArg (fun z => some (Value.int z)) ((if_neg hc47).trans rfl).symm, N18, rfl⟩
def own_la12 (s0 : Int32) (t0 : Int32) (t1 : Int32) : Int32 := (0 : Int32)
theorem d16_34 : decode jdk_43_method_13_code 34 = .ok (.iconst 0, 1) := by decide +kernel
theorem d16_35 : decode jdk_43_method_13_code 35 = .ok (.ireturn, 1) := by decide +kernel
theorem ef_16v12 (m : MethodId) (x0 : Addr) (x1 : Addr) : entryFrame m #[(.ref x0), (.ref x1)] 3 = mkF m 0 #[.val (.ref x0), .val (.ref x1), .unset] [] := by first | (simp [entryFrame, mkF, argsToLocals, Value.category]; done) | rfl
def Q16v12 (Z : State) (r0 : Addr) (r1 : Addr) (k1 : ClassId) (k2 : ClassId) (s0 : Int32) (t0 : Int32) (t1 : Int32) (h0 : Heap) (n0 : Nat) (v : Option Value) (h : Heap) (L : List Loc) : Prop := v = some (.int (own_la12 s0 t0 t1)) ∧ Fr n0 L ∧ h = h0
set_option maxRecDepth 65536 in
set_option maxHeartbeats 40000000 in
theorem rm16v12 (l : Launch) (Z : State) (a0 : Array Value) (hw : ∀ d ∈ tables_1, d.before a0 Z = true) (ws : List Jvm.Cond) (r0 : Addr) (r1 : Addr) (k1 : ClassId) (k2 : ClassId) (s0 : Int32) (t0 : Int32) (t1 : Int32) (h0 : Heap) (n0 : Nat) (Z0 : n0 ≤ h0.size) (V_r0 : Arv Z h0 r0 k1 .byte (1 : Int32) [(.int s0)] (.int (0 : Int32))) (V_r1 : Arv Z h0 r1 k2 .byte (2 : Int32) [(.int t0), (.int t1)] (.int (0 : Int32))) :
    MetFree l (⟨"java/lang/StringLatin1", "equals", "([B[B)Z"⟩ : MethodName) (head1 (Jvm.Cond.code (⟨"java/lang/StringLatin1", "equals", "([B[B)Z"⟩ : MethodName) jdk_43_method_13_code 3 (some .boolean) :: ws) ({ frames := 0, cells := 0, slots := 0, locals := 0 } : Room)) (fun a U => a = #[(.ref r0), (.ref r1)] ∧ Z.Warmed39 U.vm ∧ U.heap = h0) (fun _ _ _ _ _ => True) (fun _ U o U' => ∃ v L, o = .returned v ∧ Q16v12 Z r0 r1 k1 k2 s0 t0 t1 h0 n0 v U'.heap L ∧ FrameEnd U o U' L ({ frames := 0, cells := 0, slots := 0, locals := 0 } : Room).cells ({ frames := 0, cells := 0, slots := 0, locals := 0 } : Room).slots) := by
  refine MetFree.of_bodySF (plainFor_of_name pn0) hisR ?_
  intro p e s m args below meth c s₁ Bd hml0 hP hK
  obtain ⟨rfl, hZ, hh⟩ := hP
  have hx := Bd.exec
  have hby := Bd.bytes
  have hml : c.maxLocals = 3 := hml0
  have hown : s.vm.findClass "java/lang/StringLatin1" = some m.cls := findClass_of_methodNamed Bd.named
  have hnm := (name_of_methodNamed Bd.named Bd.method).1
  have X0 : Stand p l e ({ frames := 0, cells := 0, slots := 0, locals := 0 } : Room) s m #[(.ref r0), (.ref r1)] below meth c s₁ [] 0 0 := Stand.of_body Bd
  have e0 : s₁.heap = h0 := by rw [← hh, Bd.state]; rfl
  have N0 := Fr.nil n0
  have pre0 : ∀ t, Steps p.tables e below (s₁.setTop (mkF m 0 #[rv r0, rv r1, .unset] [])) t → Steps p.tables e below (s₁.setTop (entryFrame m #[(.ref r0), (.ref r1)] 3)) t := fun t k => castTop (ef_16v12 m r0 r1) k
  obtain ⟨cl1, Ar1, -, S1, M1, -, -⟩ := id V_r0
  obtain ⟨cl2, Ar2, -, S2, M2, -, -⟩ := id V_r1
  have pre3 : ∀ t, Steps p.tables e below (s₁.setTop (mkF m 35 #[rv r0, rv r1, .unset] [(.int (0 : Int32))])) t → Steps p.tables e below (s₁.setTop (entryFrame m #[(.ref r0), (.ref r1)] 3)) t := by
    intro t kt
    refine pre0 _ ?_
    show Steps p.tables e below (s₁.setTop (mkF m 0 #[rv r0, rv r1, .unset] [])) _
    refine XS.aloadN X0.here hx rfl (hb hby d16_0) rfl rfl ?_
    show Steps p.tables e below (s₁.setTop (mkF m 1 #[rv r0, rv r1, .unset] [(.ref r0)])) _
    refine X0.arraylength hx (by rw [e0]; exact Ar1.1) (State.isArrayOf_alike hZ.alike Ar1.2.1) (g := (mkF m 1 #[rv r0, rv r1, .unset] [(.ref r0)])) rfl rfl (hb hby d16_1) _ ?_
    rw [len_of S1 M1]
    show Steps p.tables e below (s₁.setTop (mkF m 2 #[rv r0, rv r1, .unset] [(.int (1 : Int32))])) _
    refine XS.aloadN X0.here hx rfl (hb hby d16_2) rfl rfl ?_
    show Steps p.tables e below (s₁.setTop (mkF m 3 #[rv r0, rv r1, .unset] [(.ref r1), (.int (1 : Int32))])) _
    refine X0.arraylength hx (by rw [e0]; exact Ar2.1) (State.isArrayOf_alike hZ.alike Ar2.2.1) (g := (mkF m 3 #[rv r0, rv r1, .unset] [(.ref r1), (.int (1 : Int32))])) rfl rfl (hb hby d16_3) _ ?_
    rw [len_of S2 M2]
    show Steps p.tables e below (s₁.setTop (mkF m 4 #[rv r0, rv r1, .unset] [(.int (2 : Int32)), (.int (1 : Int32))])) _
    refine XS.icmpYes X0.here hx rfl (pc0 := 4) (pc' := 34) rfl (hb hby d16_4) rfl (feq (by decide)).2 (by decide) (by decide) ?_
    show Steps p.tables e below (s₁.setTop (mkF m 34 #[rv r0, rv r1, .unset] [])) _
    refine XS.iconst X0.here hx rfl (hb hby d16_34) ?_
    exact kt
  obtain ⟨fs, hr, hrun, hended, hW, hsame⟩ := X0.leave (v := some (.int (0 : Int32))) (fun h => by rw [Bd.returns] at h; cases h)
  refine ⟨_, _, pre3 _ ?_, hrun, hended, _, _, rfl, ?_, ⟨_, rfl⟩, hW, hsame.mono (by decide) (by decide)⟩
  · show Steps p.tables e below (s₁.setTop (mkF m 35 #[rv r0, rv r1, .unset] [(.int (0 : Int32))])) _
    exact retN X0 hx (t := .boolean) Bd.returns (by simp) (hb hby d16_35) hr
  · show Q16v12 Z r0 r1 k1 k2 s0 t0 t1 h0 n0 _ s₁.heap _
    rw [e0]
    exact ⟨congrArg (fun z => some (Value.int z)) rfl.symm, N0, rfl⟩
def own_se12 (s0 : Int32) (t0 : Int32) (t1 : Int32) : Int32 := if (own_la12 s0 t0 t1) = (0 : Int32) then 0 else 1

theorem ef_15v12 (m : MethodId) (x0 : Addr) (x1 : Addr) : entryFrame m #[(.ref x0), (.ref x1)] 3 = mkF m 0 #[.val (.ref x0), .val (.ref x1), .unset] [] := by first | (simp [entryFrame, mkF, argsToLocals, Value.category]; done) | rfl
def Q15v12 (Z : State) (r0 : Addr) (r1 : Addr) (y0 : Addr) (y1 : Addr) (k1 : ClassId) (k2 : ClassId) (s0 : Int32) (t0 : Int32) (t1 : Int32) (cs : Int32) (h0 : Heap) (n0 : Nat) (v : Option Value) (h : Heap) (L : List Loc) : Prop := v = some (.int (own_se12 s0 t0 t1)) ∧ Fr n0 L ∧ h = h0
set_option maxRecDepth 65536 in
set_option maxHeartbeats 40000000 in
theorem rm15v12 (l : Launch) (Z : State) (a0 : Array Value) (hw : ∀ d ∈ tables_1, d.before a0 Z = true) (ws : List Jvm.Cond) (r0 : Addr) (r1 : Addr) (y0 : Addr) (y1 : Addr) (k1 : ClassId) (k2 : ClassId) (s0 : Int32) (t0 : Int32) (t1 : Int32) (cs : Int32) (h0 : Heap) (n0 : Nat) (Z0 : n0 ≤ h0.size) (O0 : Old Z n0 h0) (S_cs : Sta Z Z.heap "java/lang/String" "COMPACT_STRINGS" "Z" (.int cs)) (hcs : ¬ (cs = (0 : Int32))) (F_value_r0 : Fld Z h0 r0 "java/lang/String" "value" "[B" (.ref y0)) (F_coder_r0 : Fld Z h0 r0 "java/lang/String" "coder" "B" (.int (0 : Int32))) (E_r0 : Exa Z h0 r0 "java/lang/String") (V_y0 : Arv Z h0 y0 k1 .byte (1 : Int32) [(.int s0)] (.int (0 : Int32))) (F_value_r1 : Fld Z h0 r1 "java/lang/String" "value" "[B" (.ref y1)) (F_coder_r1 : Fld Z h0 r1 "java/lang/String" "coder" "B" (.int (0 : Int32))) (E_r1 : Exa Z h0 r1 "java/lang/String") (V_y1 : Arv Z h0 y1 k2 .byte (2 : Int32) [(.int t0), (.int t1)] (.int (0 : Int32))) (hne : r0 ≠ r1) :
    MetFree l (⟨"java/lang/String", "equals", "(Ljava/lang/Object;)Z"⟩ : MethodName) (head1 (Jvm.Cond.code (⟨"java/lang/String", "equals", "(Ljava/lang/Object;)Z"⟩ : MethodName) jdk_42_method_66_code 3 (some .boolean) :: ws) ({ frames := 1, cells := 0, slots := 0, locals := 14 } : Room)) (fun a U => a = #[(.ref r0), (.ref r1)] ∧ Z.Warmed39 U.vm ∧ U.heap = h0) (fun _ _ _ _ _ => True) (fun _ U o U' => ∃ v L, o = .returned v ∧ Q15v12 Z r0 r1 y0 y1 k1 k2 s0 t0 t1 cs h0 n0 v U'.heap L ∧ FrameEnd U o U' L ({ frames := 1, cells := 0, slots := 0, locals := 14 } : Room).cells ({ frames := 1, cells := 0, slots := 0, locals := 14 } : Room).slots) := by
  refine MetFree.of_bodySF (plainFor_of_name pn1) hisR ?_
  intro p e s m args below meth c s₁ Bd hml0 hP hK
  obtain ⟨rfl, hZ, hh⟩ := hP
  have hx := Bd.exec
  have hby := Bd.bytes
  have hml : c.maxLocals = 3 := hml0
  have hown : s.vm.findClass "java/lang/String" = some m.cls := findClass_of_methodNamed Bd.named
  have hnm := (name_of_methodNamed Bd.named Bd.method).1
  have X0 : Stand p l e ({ frames := 1, cells := 0, slots := 0, locals := 14 } : Room) s m #[(.ref r0), (.ref r1)] below meth c s₁ [] 0 0 := Stand.of_body Bd
  have e0 : s₁.heap = h0 := by rw [← hh, Bd.state]; rfl
  have N0 := Fr.nil n0
  have pre0 : ∀ t, Steps p.tables e below (s₁.setTop (mkF m 0 #[rv r0, rv r1, .unset] [])) t → Steps p.tables e below (s₁.setTop (entryFrame m #[(.ref r0), (.ref r1)] 3)) t := fun t k => castTop (ef_15v12 m r0 r1) k
  have pre1 : ∀ t, Steps p.tables e below (s₁.setTop (mkF m 8 #[rv r0, rv r1, .unset] [(.ref r1)])) t → Steps p.tables e below (s₁.setTop (entryFrame m #[(.ref r0), (.ref r1)] 3)) t := by
    intro t kt
    refine pre0 _ ?_
    show Steps p.tables e below (s₁.setTop (mkF m 0 #[rv r0, rv r1, .unset] [])) _
    refine XS.aloadN X0.here hx rfl (hb hby d15_0) rfl rfl ?_
    show Steps p.tables e below (s₁.setTop (mkF m 1 #[rv r0, rv r1, .unset] [(.ref r0)])) _
    refine XS.aloadN X0.here hx rfl (hb hby d15_1) rfl rfl ?_
    show Steps p.tables e below (s₁.setTop (mkF m 2 #[rv r0, rv r1, .unset] [(.ref r1), (.ref r0)])) _
    refine Jvm.RoadKit.acmp (g := (mkF m 2 #[rv r0, rv r1, .unset] [(.ref r1), (.ref r0)])) X0 hx rfl rfl rfl (pc0 := 2) (pc' := 7) (same := false) rfl (hb hby d15_2) rfl (decide_eq_false fun q => hne (Value.ref.inj q)) (by decide) (by decide) ?_
    show Steps p.tables e below (s₁.setTop (mkF m 7 #[rv r0, rv r1, .unset] [])) _
    refine XS.aloadN X0.here hx rfl (hb hby d15_7) rfl rfl ?_
    exact kt
  obtain ⟨T2, X2, e2, st2⟩ := instY X0 hx hZ hown (hw _ (List.mem_of_getElem? (i := 65) rfl)) e0 (Ins.self E_r1) (g := (mkF m 8 #[rv r0, rv r1, .unset] [(.ref r1)])) rfl rfl (hb hby d15_8)
  have pre3 : ∀ t, Steps p.tables e below (T2.setTop (mkF m 15 #[rv r0, rv r1, .unset] [(.ref r1)])) t → Steps p.tables e below (s₁.setTop (entryFrame m #[(.ref r0), (.ref r1)] 3)) t := by
    intro t kt
    refine pre1 _ ?_
    show Steps p.tables e below (s₁.setTop (mkF m 8 #[rv r0, rv r1, .unset] [(.ref r1)])) _
    refine st2 _ ?_
    show Steps p.tables e below (T2.setTop (mkF m 11 #[rv r0, rv r1, .unset] [(.int (1 : Int32))])) _
    refine XS.ifNo X2.here hx rfl (hb hby d15_11) rfl ((if0 _ _).trans (feq (by decide)).1) ?_
    show Steps p.tables e below (T2.setTop (mkF m 14 #[rv r0, rv r1, .unset] [])) _
    refine XS.aloadN X2.here hx rfl (hb hby d15_14) rfl rfl ?_
    exact kt
  obtain ⟨T4, X4, e4, st4⟩ := castY X2 hx hZ hown (hw _ (List.mem_of_getElem? (i := 65) rfl)) e2 (Ins.self E_r1) (g := (mkF m 15 #[rv r0, rv r1, .unset] [(.ref r1)])) rfl rfl (hb hby d15_15)
  have pre5 : ∀ t, Steps p.tables e below (T4.setTop (mkF m 19 #[rv r0, rv r1, rv r1] [])) t → Steps p.tables e below (s₁.setTop (entryFrame m #[(.ref r0), (.ref r1)] 3)) t := by
    intro t kt
    refine pre3 _ ?_
    show Steps p.tables e below (T2.setTop (mkF m 15 #[rv r0, rv r1, .unset] [(.ref r1)])) _
    refine st4 _ ?_
    show Steps p.tables e below (T4.setTop (mkF m 18 #[rv r0, rv r1, .unset] [(.ref r1)])) _
    refine XS.astoreN X4.here hx rfl (hb hby d15_18) rfl rfl (l' := #[rv r0, rv r1, rv r1]) rfl ?_
    exact kt
  obtain ⟨T6, X6, e6, st6⟩ := getS2 X4 hx hZ hown (host := "") (Or.inl (hw _ (List.mem_of_getElem? (i := 18) rfl))) Via.refl e4 (S_cs.ext (O0.keep (Keep.refl h0 []) all0).2) (g := (mkF m 19 #[rv r0, rv r1, rv r1] [])) rfl (hb hby d15_19)
  have pre8 : ∀ t, Steps p.tables e below (T6.setTop (mkF m 22 #[rv r0, rv r1, rv r1] [(.int cs)])) t → Steps p.tables e below (s₁.setTop (entryFrame m #[(.ref r0), (.ref r1)] 3)) t := by
    intro t kt
    refine pre5 _ ?_
    show Steps p.tables e below (T4.setTop (mkF m 19 #[rv r0, rv r1, rv r1] [])) _
    refine st6 _ ?_
    exact kt
  have hc22_7 : ¬ (cs = (0 : Int32)) := hcs
  have pre9 : ∀ t, Steps p.tables e below (T6.setTop (mkF m 26 #[rv r0, rv r1, rv r1] [(.ref r0)])) t → Steps p.tables e below (s₁.setTop (entryFrame m #[(.ref r0), (.ref r1)] 3)) t := by
    intro t kt
    refine pre8 _ ?_
    show Steps p.tables e below (T6.setTop (mkF m 22 #[rv r0, rv r1, rv r1] [(.int cs)])) _
    refine XS.ifNo X6.here hx rfl (hb hby d15_22) rfl ((if0 _ _).trans (feq hc22_7).1) ?_
    show Steps p.tables e below (T6.setTop (mkF m 25 #[rv r0, rv r1, rv r1] [])) _
    refine XS.aloadN X6.here hx rfl (hb hby d15_25) rfl rfl ?_
    exact kt
  obtain ⟨T10, X10, e10, st10⟩ := getF X6 hx hZ hown (host := "") (Or.inl (hw _ (List.mem_of_getElem? (i := 30) rfl))) Via.refl e6 F_coder_r0 (g := (mkF m 26 #[rv r0, rv r1, rv r1] [(.ref r0)])) rfl rfl (hb hby d15_26)
  have pre11 : ∀ t, Steps p.tables e below (T10.setTop (mkF m 30 #[rv r0, rv r1, rv r1] [(.ref r1), (.int (0 : Int32))])) t → Steps p.tables e below (s₁.setTop (entryFrame m #[(.ref r0), (.ref r1)] 3)) t := by
    intro t kt
    refine pre9 _ ?_
    show Steps p.tables e below (T6.setTop (mkF m 26 #[rv r0, rv r1, rv r1] [(.ref r0)])) _
    refine st10 _ ?_
    show Steps p.tables e below (T10.setTop (mkF m 29 #[rv r0, rv r1, rv r1] [(.int (0 : Int32))])) _
    refine XS.aloadN X10.here hx rfl (hb hby d15_29) rfl rfl ?_
    exact kt
  obtain ⟨T12, X12, e12, st12⟩ := getF X10 hx hZ hown (host := "") (Or.inl (hw _ (List.mem_of_getElem? (i := 30) rfl))) Via.refl e10 F_coder_r1 (g := (mkF m 30 #[rv r0, rv r1, rv r1] [(.ref r1), (.int (0 : Int32))])) rfl rfl (hb hby d15_30)
  have pre13 : ∀ t, Steps p.tables e below (T12.setTop (mkF m 37 #[rv r0, rv r1, rv r1] [(.ref r0)])) t → Steps p.tables e below (s₁.setTop (entryFrame m #[(.ref r0), (.ref r1)] 3)) t := by
    intro t kt
    refine pre11 _ ?_
    show Steps p.tables e below (T10.setTop (mkF m 30 #[rv r0, rv r1, rv r1] [(.ref r1), (.int (0 : Int32))])) _
    refine st12 _ ?_
    show Steps p.tables e below (T12.setTop (mkF m 33 #[rv r0, rv r1, rv r1] [(.int (0 : Int32)), (.int (0 : Int32))])) _
    refine XS.icmpNo X12.here hx rfl (hb hby d15_33) rfl (teq (by decide)).2 ?_
    show Steps p.tables e below (T12.setTop (mkF m 36 #[rv r0, rv r1, rv r1] [])) _
    refine XS.aloadN X12.here hx rfl (hb hby d15_36) rfl rfl ?_
    exact kt
  obtain ⟨T14, X14, e14, st14⟩ := getF X12 hx hZ hown (host := "") (Or.inl (hw _ (List.mem_of_getElem? (i := 32) rfl))) Via.refl e12 F_value_r0 (g := (mkF m 37 #[rv r0, rv r1, rv r1] [(.ref r0)])) rfl rfl (hb hby d15_37)
  have pre15 : ∀ t, Steps p.tables e below (T14.setTop (mkF m 41 #[rv r0, rv r1, rv r1] [(.ref r1), (.ref y0)])) t → Steps p.tables e below (s₁.setTop (entryFrame m #[(.ref r0), (.ref r1)] 3)) t := by
    intro t kt
    refine pre13 _ ?_
    show Steps p.tables e below (T12.setTop (mkF m 37 #[rv r0, rv r1, rv r1] [(.ref r0)])) _
    refine st14 _ ?_
    show Steps p.tables e below (T14.setTop (mkF m 40 #[rv r0, rv r1, rv r1] [(.ref y0)])) _
    refine XS.aloadN X14.here hx rfl (hb hby d15_40) rfl rfl ?_
    exact kt
  obtain ⟨T16, X16, e16, st16⟩ := getF X14 hx hZ hown (host := "") (Or.inl (hw _ (List.mem_of_getElem? (i := 32) rfl))) Via.refl e14 F_value_r1 (g := (mkF m 41 #[rv r0, rv r1, rv r1] [(.ref r1), (.ref y0)])) rfl rfl (hb hby d15_41)
  have pre17 : ∀ t, Steps p.tables e below (T16.setTop (mkF m 44 #[rv r0, rv r1, rv r1] [(.ref y1), (.ref y0)])) t → Steps p.tables e below (s₁.setTop (entryFrame m #[(.ref r0), (.ref r1)] 3)) t := by
    intro t kt
    refine pre15 _ ?_
    show Steps p.tables e below (T14.setTop (mkF m 41 #[rv r0, rv r1, rv r1] [(.ref r1), (.ref y0)])) _
    refine st16 _ ?_
    exact kt
  obtain ⟨_, _, ⟨T18, L18, k18, n18⟩, -, X18, ⟨Lc18, hQ18, l18, y18, z18⟩, st18⟩ := Jvm.LawKit.callS X16 hx (y := (⟨"java/lang/StringLatin1", "equals", "([B[B)Z"⟩ : MethodName)) hown (mvT hZ (hw _ (List.mem_of_getElem? (i := 83) rfl))) (mvT hZ (hw _ (List.mem_of_getElem? (i := 84) rfl))) (mvT hZ (hw _ (List.mem_of_getElem? (i := 63) rfl))) (mvT hZ (hw _ (List.mem_of_getElem? (i := 85) rfl))) (by decide) (backOf (W := 0) (rm16v12 l Z a0 hw [] y0 y1 k1 k2 s0 t0 t1 h0 n0 (Nat.le_trans Z0 (Keep.refl h0 []).1) V_y0 V_y1) hZ (hw _ (List.mem_of_getElem? (i := 85) rfl)) (hw _ (List.mem_of_getElem? (i := 63) rfl)) (by decide) (by decide)) (g := (mkF m 44 #[rv r0, rv r1, rv r1] [(.ref y1), (.ref y0)])) rfl (by rw [hml]; rfl) (argsL := [(.ref y0), (.ref y1)]) (rest := []) (lenOf pd14 rfl) rfl (by show 2 * 0 + _ ≤ _; exact Nat.le_of_eq rfl) (hb hby d15_44) (fun _ _ => ⟨rfl, e16, (by decide : 0 + 0 ≤ _), (by decide : 0 + 0 ≤ _)⟩)
  dsimp only [Pt.U, Pt.locs, Pt.cells, Pt.slots] at X18 l18 y18 z18 st18 hQ18
  subst l18 y18 z18
  obtain ⟨rfl, N18q, hh18⟩ := hQ18
  have N18 := Fr.app N0 N18q
  have pre19 : ∀ t, Steps p.tables e below (T18.setTop (mkF m 47 #[rv r0, rv r1, rv r1] [(.int (own_la12 s0 t0 t1))])) t → Steps p.tables e below (s₁.setTop (entryFrame m #[(.ref r0), (.ref r1)] 3)) t := by
    intro t kt
    refine pre17 _ ?_
    show Steps p.tables e below (T16.setTop (mkF m 44 #[rv r0, rv r1, rv r1] [(.ref y1), (.ref y0)])) _
    refine st18 _ ?_
    exact kt
  by_cases hc47 : (own_la12 s0 t0 t1) = (0 : Int32)
  · have pre20 : ∀ t, Steps p.tables e below (T18.setTop (mkF m 55 #[rv r0, rv r1, rv r1] [(.int (0 : Int32))])) t → Steps p.tables e below (s₁.setTop (entryFrame m #[(.ref r0), (.ref r1)] 3)) t := by
      intro t kt
      refine pre19 _ ?_
      show Steps p.tables e below (T18.setTop (mkF m 47 #[rv r0, rv r1, rv r1] [(.int (own_la12 s0 t0 t1))])) _
      refine XS.ifYes X18.here hx rfl (pc0 := 47) (pc' := 54) rfl (hb hby d15_47) rfl ((if0 _ _).trans (teq hc47).1) (by decide) (by decide) ?_
      show Steps p.tables e below (T18.setTop (mkF m 54 #[rv r0, rv r1, rv r1] [])) _
      refine XS.iconst X18.here hx rfl (hb hby d15_54) ?_
      exact kt
    obtain ⟨fs, hr, hrun, hended, hW, hsame⟩ := X18.leave (v := some (.int (0 : Int32))) (fun h => by rw [Bd.returns] at h; cases h)
    refine ⟨_, _, pre20 _ ?_, hrun, hended, _, _, rfl, ?_, ⟨_, rfl⟩, hW, hsame.mono (by decide) (by decide)⟩
    · show Steps p.tables e below (T18.setTop (mkF m 55 #[rv r0, rv r1, rv r1] [(.int (0 : Int32))])) _
      exact retN X18 hx (t := .boolean) Bd.returns (by simp) (hb hby d15_55) hr
    · show Q15v12 Z r0 r1 y0 y1 k1 k2 s0 t0 t1 cs h0 n0 _ T18.heap _
      rw [hh18]
      exact ⟨congrArg (fun z => some (Value.int z)) ((if_pos hc47).trans rfl).symm, N18, rfl⟩
  · have pre21 : ∀ t, Steps p.tables e below (T18.setTop (mkF m 55 #[rv r0, rv r1, rv r1] [(.int (1 : Int32))])) t → Steps p.tables e below (s₁.setTop (entryFrame m #[(.ref r0), (.ref r1)] 3)) t := by
      intro t kt
      refine pre19 _ ?_
      show Steps p.tables e below (T18.setTop (mkF m 47 #[rv r0, rv r1, rv r1] [(.int (own_la12 s0 t0 t1))])) _
      refine XS.ifNo X18.here hx rfl (hb hby d15_47) rfl ((if0 _ _).trans (feq hc47).1) ?_
      show Steps p.tables e below (T18.setTop (mkF m 50 #[rv r0, rv r1, rv r1] [])) _
      refine XS.iconst X18.here hx rfl (hb hby d15_50) ?_
      show Steps p.tables e below (T18.setTop (mkF m 51 #[rv r0, rv r1, rv r1] [(.int (1 : Int32))])) _
      refine XS.goto X18.here hx rfl (pc0 := 51) (pc' := 55) rfl (hb hby d15_51) (by decide) (by decide) ?_
      exact kt
    obtain ⟨fs, hr, hrun, hended, hW, hsame⟩ := X18.leave (v := some (.int (1 : Int32))) (fun h => by rw [Bd.returns] at h; cases h)
    refine ⟨_, _, pre21 _ ?_, hrun, hended, _, _, rfl, ?_, ⟨_, rfl⟩, hW, hsame.mono (by decide) (by decide)⟩
    · show Steps p.tables e below (T18.setTop (mkF m 55 #[rv r0, rv r1, rv r1] [(.int (1 : Int32))])) _
      exact retN X18 hx (t := .boolean) Bd.returns (by simp) (hb hby d15_55) hr
    · show Q15v12 Z r0 r1 y0 y1 k1 k2 s0 t0 t1 cs h0 n0 _ T18.heap _
      rw [hh18]
      exact ⟨congrArg (fun z => some (Value.int z)) ((if_neg hc47).trans rfl).symm, N18, rfl⟩
def own_la21 (s0 : Int32) (s1 : Int32) (t0 : Int32) : Int32 := (0 : Int32)

theorem ef_16v21 (m : MethodId) (x0 : Addr) (x1 : Addr) : entryFrame m #[(.ref x0), (.ref x1)] 3 = mkF m 0 #[.val (.ref x0), .val (.ref x1), .unset] [] := by first | (simp [entryFrame, mkF, argsToLocals, Value.category]; done) | rfl
def Q16v21 (Z : State) (r0 : Addr) (r1 : Addr) (k1 : ClassId) (k2 : ClassId) (s0 : Int32) (s1 : Int32) (t0 : Int32) (h0 : Heap) (n0 : Nat) (v : Option Value) (h : Heap) (L : List Loc) : Prop := v = some (.int (own_la21 s0 s1 t0)) ∧ Fr n0 L ∧ h = h0
set_option maxRecDepth 65536 in
set_option maxHeartbeats 40000000 in
theorem rm16v21 (l : Launch) (Z : State) (a0 : Array Value) (hw : ∀ d ∈ tables_1, d.before a0 Z = true) (ws : List Jvm.Cond) (r0 : Addr) (r1 : Addr) (k1 : ClassId) (k2 : ClassId) (s0 : Int32) (s1 : Int32) (t0 : Int32) (h0 : Heap) (n0 : Nat) (Z0 : n0 ≤ h0.size) (V_r0 : Arv Z h0 r0 k1 .byte (2 : Int32) [(.int s0), (.int s1)] (.int (0 : Int32))) (V_r1 : Arv Z h0 r1 k2 .byte (1 : Int32) [(.int t0)] (.int (0 : Int32))) :
    MetFree l (⟨"java/lang/StringLatin1", "equals", "([B[B)Z"⟩ : MethodName) (head1 (Jvm.Cond.code (⟨"java/lang/StringLatin1", "equals", "([B[B)Z"⟩ : MethodName) jdk_43_method_13_code 3 (some .boolean) :: ws) ({ frames := 0, cells := 0, slots := 0, locals := 0 } : Room)) (fun a U => a = #[(.ref r0), (.ref r1)] ∧ Z.Warmed39 U.vm ∧ U.heap = h0) (fun _ _ _ _ _ => True) (fun _ U o U' => ∃ v L, o = .returned v ∧ Q16v21 Z r0 r1 k1 k2 s0 s1 t0 h0 n0 v U'.heap L ∧ FrameEnd U o U' L ({ frames := 0, cells := 0, slots := 0, locals := 0 } : Room).cells ({ frames := 0, cells := 0, slots := 0, locals := 0 } : Room).slots) := by
  refine MetFree.of_bodySF (plainFor_of_name pn0) hisR ?_
  intro p e s m args below meth c s₁ Bd hml0 hP hK
  obtain ⟨rfl, hZ, hh⟩ := hP
  have hx := Bd.exec
  have hby := Bd.bytes
  have hml : c.maxLocals = 3 := hml0
  have hown : s.vm.findClass "java/lang/StringLatin1" = some m.cls := findClass_of_methodNamed Bd.named
  have hnm := (name_of_methodNamed Bd.named Bd.method).1
  have X0 : Stand p l e ({ frames := 0, cells := 0, slots := 0, locals := 0 } : Room) s m #[(.ref r0), (.ref r1)] below meth c s₁ [] 0 0 := Stand.of_body Bd
  have e0 : s₁.heap = h0 := by rw [← hh, Bd.state]; rfl
  have N0 := Fr.nil n0
  have pre0 : ∀ t, Steps p.tables e below (s₁.setTop (mkF m 0 #[rv r0, rv r1, .unset] [])) t → Steps p.tables e below (s₁.setTop (entryFrame m #[(.ref r0), (.ref r1)] 3)) t := fun t k => castTop (ef_16v21 m r0 r1) k
  obtain ⟨cl1, Ar1, -, S1, M1, -, -⟩ := id V_r0
  obtain ⟨cl2, Ar2, -, S2, M2, -, -⟩ := id V_r1
  have pre3 : ∀ t, Steps p.tables e below (s₁.setTop (mkF m 35 #[rv r0, rv r1, .unset] [(.int (0 : Int32))])) t → Steps p.tables e below (s₁.setTop (entryFrame m #[(.ref r0), (.ref r1)] 3)) t := by
    intro t kt
    refine pre0 _ ?_
    show Steps p.tables e below (s₁.setTop (mkF m 0 #[rv r0, rv r1, .unset] [])) _
    refine XS.aloadN X0.here hx rfl (hb hby d16_0) rfl rfl ?_
    show Steps p.tables e below (s₁.setTop (mkF m 1 #[rv r0, rv r1, .unset] [(.ref r0)])) _
    refine X0.arraylength hx (by rw [e0]; exact Ar1.1) (State.isArrayOf_alike hZ.alike Ar1.2.1) (g := (mkF m 1 #[rv r0, rv r1, .unset] [(.ref r0)])) rfl rfl (hb hby d16_1) _ ?_
    rw [len_of S1 M1]
    show Steps p.tables e below (s₁.setTop (mkF m 2 #[rv r0, rv r1, .unset] [(.int (2 : Int32))])) _
    refine XS.aloadN X0.here hx rfl (hb hby d16_2) rfl rfl ?_
    show Steps p.tables e below (s₁.setTop (mkF m 3 #[rv r0, rv r1, .unset] [(.ref r1), (.int (2 : Int32))])) _
    refine X0.arraylength hx (by rw [e0]; exact Ar2.1) (State.isArrayOf_alike hZ.alike Ar2.2.1) (g := (mkF m 3 #[rv r0, rv r1, .unset] [(.ref r1), (.int (2 : Int32))])) rfl rfl (hb hby d16_3) _ ?_
    rw [len_of S2 M2]
    show Steps p.tables e below (s₁.setTop (mkF m 4 #[rv r0, rv r1, .unset] [(.int (1 : Int32)), (.int (2 : Int32))])) _
    refine XS.icmpYes X0.here hx rfl (pc0 := 4) (pc' := 34) rfl (hb hby d16_4) rfl (feq (by decide)).2 (by decide) (by decide) ?_
    show Steps p.tables e below (s₁.setTop (mkF m 34 #[rv r0, rv r1, .unset] [])) _
    refine XS.iconst X0.here hx rfl (hb hby d16_34) ?_
    exact kt
  obtain ⟨fs, hr, hrun, hended, hW, hsame⟩ := X0.leave (v := some (.int (0 : Int32))) (fun h => by rw [Bd.returns] at h; cases h)
  refine ⟨_, _, pre3 _ ?_, hrun, hended, _, _, rfl, ?_, ⟨_, rfl⟩, hW, hsame.mono (by decide) (by decide)⟩
  · show Steps p.tables e below (s₁.setTop (mkF m 35 #[rv r0, rv r1, .unset] [(.int (0 : Int32))])) _
    exact retN X0 hx (t := .boolean) Bd.returns (by simp) (hb hby d16_35) hr
  · show Q16v21 Z r0 r1 k1 k2 s0 s1 t0 h0 n0 _ s₁.heap _
    rw [e0]
    exact ⟨congrArg (fun z => some (Value.int z)) rfl.symm, N0, rfl⟩
def own_se21 (s0 : Int32) (s1 : Int32) (t0 : Int32) : Int32 := if (own_la21 s0 s1 t0) = (0 : Int32) then 0 else 1

theorem ef_15v21 (m : MethodId) (x0 : Addr) (x1 : Addr) : entryFrame m #[(.ref x0), (.ref x1)] 3 = mkF m 0 #[.val (.ref x0), .val (.ref x1), .unset] [] := by first | (simp [entryFrame, mkF, argsToLocals, Value.category]; done) | rfl
def Q15v21 (Z : State) (r0 : Addr) (r1 : Addr) (y0 : Addr) (y1 : Addr) (k1 : ClassId) (k2 : ClassId) (s0 : Int32) (s1 : Int32) (t0 : Int32) (cs : Int32) (h0 : Heap) (n0 : Nat) (v : Option Value) (h : Heap) (L : List Loc) : Prop := v = some (.int (own_se21 s0 s1 t0)) ∧ Fr n0 L ∧ h = h0
set_option maxRecDepth 65536 in
set_option maxHeartbeats 40000000 in
theorem rm15v21 (l : Launch) (Z : State) (a0 : Array Value) (hw : ∀ d ∈ tables_1, d.before a0 Z = true) (ws : List Jvm.Cond) (r0 : Addr) (r1 : Addr) (y0 : Addr) (y1 : Addr) (k1 : ClassId) (k2 : ClassId) (s0 : Int32) (s1 : Int32) (t0 : Int32) (cs : Int32) (h0 : Heap) (n0 : Nat) (Z0 : n0 ≤ h0.size) (O0 : Old Z n0 h0) (S_cs : Sta Z Z.heap "java/lang/String" "COMPACT_STRINGS" "Z" (.int cs)) (hcs : ¬ (cs = (0 : Int32))) (F_value_r0 : Fld Z h0 r0 "java/lang/String" "value" "[B" (.ref y0)) (F_coder_r0 : Fld Z h0 r0 "java/lang/String" "coder" "B" (.int (0 : Int32))) (E_r0 : Exa Z h0 r0 "java/lang/String") (V_y0 : Arv Z h0 y0 k1 .byte (2 : Int32) [(.int s0), (.int s1)] (.int (0 : Int32))) (F_value_r1 : Fld Z h0 r1 "java/lang/String" "value" "[B" (.ref y1)) (F_coder_r1 : Fld Z h0 r1 "java/lang/String" "coder" "B" (.int (0 : Int32))) (E_r1 : Exa Z h0 r1 "java/lang/String") (V_y1 : Arv Z h0 y1 k2 .byte (1 : Int32) [(.int t0)] (.int (0 : Int32))) (hne : r0 ≠ r1) :
    MetFree l (⟨"java/lang/String", "equals", "(Ljava/lang/Object;)Z"⟩ : MethodName) (head1 (Jvm.Cond.code (⟨"java/lang/String", "equals", "(Ljava/lang/Object;)Z"⟩ : MethodName) jdk_42_method_66_code 3 (some .boolean) :: ws) ({ frames := 1, cells := 0, slots := 0, locals := 14 } : Room)) (fun a U => a = #[(.ref r0), (.ref r1)] ∧ Z.Warmed39 U.vm ∧ U.heap = h0) (fun _ _ _ _ _ => True) (fun _ U o U' => ∃ v L, o = .returned v ∧ Q15v21 Z r0 r1 y0 y1 k1 k2 s0 s1 t0 cs h0 n0 v U'.heap L ∧ FrameEnd U o U' L ({ frames := 1, cells := 0, slots := 0, locals := 14 } : Room).cells ({ frames := 1, cells := 0, slots := 0, locals := 14 } : Room).slots) := by
  refine MetFree.of_bodySF (plainFor_of_name pn1) hisR ?_
  intro p e s m args below meth c s₁ Bd hml0 hP hK
  obtain ⟨rfl, hZ, hh⟩ := hP
  have hx := Bd.exec
  have hby := Bd.bytes
  have hml : c.maxLocals = 3 := hml0
  have hown : s.vm.findClass "java/lang/String" = some m.cls := findClass_of_methodNamed Bd.named
  have hnm := (name_of_methodNamed Bd.named Bd.method).1
  have X0 : Stand p l e ({ frames := 1, cells := 0, slots := 0, locals := 14 } : Room) s m #[(.ref r0), (.ref r1)] below meth c s₁ [] 0 0 := Stand.of_body Bd
  have e0 : s₁.heap = h0 := by rw [← hh, Bd.state]; rfl
  have N0 := Fr.nil n0
  have pre0 : ∀ t, Steps p.tables e below (s₁.setTop (mkF m 0 #[rv r0, rv r1, .unset] [])) t → Steps p.tables e below (s₁.setTop (entryFrame m #[(.ref r0), (.ref r1)] 3)) t := fun t k => castTop (ef_15v21 m r0 r1) k
  have pre1 : ∀ t, Steps p.tables e below (s₁.setTop (mkF m 8 #[rv r0, rv r1, .unset] [(.ref r1)])) t → Steps p.tables e below (s₁.setTop (entryFrame m #[(.ref r0), (.ref r1)] 3)) t := by
    intro t kt
    refine pre0 _ ?_
    show Steps p.tables e below (s₁.setTop (mkF m 0 #[rv r0, rv r1, .unset] [])) _
    refine XS.aloadN X0.here hx rfl (hb hby d15_0) rfl rfl ?_
    show Steps p.tables e below (s₁.setTop (mkF m 1 #[rv r0, rv r1, .unset] [(.ref r0)])) _
    refine XS.aloadN X0.here hx rfl (hb hby d15_1) rfl rfl ?_
    show Steps p.tables e below (s₁.setTop (mkF m 2 #[rv r0, rv r1, .unset] [(.ref r1), (.ref r0)])) _
    refine Jvm.RoadKit.acmp (g := (mkF m 2 #[rv r0, rv r1, .unset] [(.ref r1), (.ref r0)])) X0 hx rfl rfl rfl (pc0 := 2) (pc' := 7) (same := false) rfl (hb hby d15_2) rfl (decide_eq_false fun q => hne (Value.ref.inj q)) (by decide) (by decide) ?_
    show Steps p.tables e below (s₁.setTop (mkF m 7 #[rv r0, rv r1, .unset] [])) _
    refine XS.aloadN X0.here hx rfl (hb hby d15_7) rfl rfl ?_
    exact kt
  obtain ⟨T2, X2, e2, st2⟩ := instY X0 hx hZ hown (hw _ (List.mem_of_getElem? (i := 65) rfl)) e0 (Ins.self E_r1) (g := (mkF m 8 #[rv r0, rv r1, .unset] [(.ref r1)])) rfl rfl (hb hby d15_8)
  have pre3 : ∀ t, Steps p.tables e below (T2.setTop (mkF m 15 #[rv r0, rv r1, .unset] [(.ref r1)])) t → Steps p.tables e below (s₁.setTop (entryFrame m #[(.ref r0), (.ref r1)] 3)) t := by
    intro t kt
    refine pre1 _ ?_
    show Steps p.tables e below (s₁.setTop (mkF m 8 #[rv r0, rv r1, .unset] [(.ref r1)])) _
    refine st2 _ ?_
    show Steps p.tables e below (T2.setTop (mkF m 11 #[rv r0, rv r1, .unset] [(.int (1 : Int32))])) _
    refine XS.ifNo X2.here hx rfl (hb hby d15_11) rfl ((if0 _ _).trans (feq (by decide)).1) ?_
    show Steps p.tables e below (T2.setTop (mkF m 14 #[rv r0, rv r1, .unset] [])) _
    refine XS.aloadN X2.here hx rfl (hb hby d15_14) rfl rfl ?_
    exact kt
  obtain ⟨T4, X4, e4, st4⟩ := castY X2 hx hZ hown (hw _ (List.mem_of_getElem? (i := 65) rfl)) e2 (Ins.self E_r1) (g := (mkF m 15 #[rv r0, rv r1, .unset] [(.ref r1)])) rfl rfl (hb hby d15_15)
  have pre5 : ∀ t, Steps p.tables e below (T4.setTop (mkF m 19 #[rv r0, rv r1, rv r1] [])) t → Steps p.tables e below (s₁.setTop (entryFrame m #[(.ref r0), (.ref r1)] 3)) t := by
    intro t kt
    refine pre3 _ ?_
    show Steps p.tables e below (T2.setTop (mkF m 15 #[rv r0, rv r1, .unset] [(.ref r1)])) _
    refine st4 _ ?_
    show Steps p.tables e below (T4.setTop (mkF m 18 #[rv r0, rv r1, .unset] [(.ref r1)])) _
    refine XS.astoreN X4.here hx rfl (hb hby d15_18) rfl rfl (l' := #[rv r0, rv r1, rv r1]) rfl ?_
    exact kt
  obtain ⟨T6, X6, e6, st6⟩ := getS2 X4 hx hZ hown (host := "") (Or.inl (hw _ (List.mem_of_getElem? (i := 18) rfl))) Via.refl e4 (S_cs.ext (O0.keep (Keep.refl h0 []) all0).2) (g := (mkF m 19 #[rv r0, rv r1, rv r1] [])) rfl (hb hby d15_19)
  have pre8 : ∀ t, Steps p.tables e below (T6.setTop (mkF m 22 #[rv r0, rv r1, rv r1] [(.int cs)])) t → Steps p.tables e below (s₁.setTop (entryFrame m #[(.ref r0), (.ref r1)] 3)) t := by
    intro t kt
    refine pre5 _ ?_
    show Steps p.tables e below (T4.setTop (mkF m 19 #[rv r0, rv r1, rv r1] [])) _
    refine st6 _ ?_
    exact kt
  have hc22_7 : ¬ (cs = (0 : Int32)) := hcs
  have pre9 : ∀ t, Steps p.tables e below (T6.setTop (mkF m 26 #[rv r0, rv r1, rv r1] [(.ref r0)])) t → Steps p.tables e below (s₁.setTop (entryFrame m #[(.ref r0), (.ref r1)] 3)) t := by
    intro t kt
    refine pre8 _ ?_
    show Steps p.tables e below (T6.setTop (mkF m 22 #[rv r0, rv r1, rv r1] [(.int cs)])) _
    refine XS.ifNo X6.here hx rfl (hb hby d15_22) rfl ((if0 _ _).trans (feq hc22_7).1) ?_
    show Steps p.tables e below (T6.setTop (mkF m 25 #[rv r0, rv r1, rv r1] [])) _
    refine XS.aloadN X6.here hx rfl (hb hby d15_25) rfl rfl ?_
    exact kt
  obtain ⟨T10, X10, e10, st10⟩ := getF X6 hx hZ hown (host := "") (Or.inl (hw _ (List.mem_of_getElem? (i := 30) rfl))) Via.refl e6 F_coder_r0 (g := (mkF m 26 #[rv r0, rv r1, rv r1] [(.ref r0)])) rfl rfl (hb hby d15_26)
  have pre11 : ∀ t, Steps p.tables e below (T10.setTop (mkF m 30 #[rv r0, rv r1, rv r1] [(.ref r1), (.int (0 : Int32))])) t → Steps p.tables e below (s₁.setTop (entryFrame m #[(.ref r0), (.ref r1)] 3)) t := by
    intro t kt
    refine pre9 _ ?_
    show Steps p.tables e below (T6.setTop (mkF m 26 #[rv r0, rv r1, rv r1] [(.ref r0)])) _
    refine st10 _ ?_
    show Steps p.tables e below (T10.setTop (mkF m 29 #[rv r0, rv r1, rv r1] [(.int (0 : Int32))])) _
    refine XS.aloadN X10.here hx rfl (hb hby d15_29) rfl rfl ?_
    exact kt
  obtain ⟨T12, X12, e12, st12⟩ := getF X10 hx hZ hown (host := "") (Or.inl (hw _ (List.mem_of_getElem? (i := 30) rfl))) Via.refl e10 F_coder_r1 (g := (mkF m 30 #[rv r0, rv r1, rv r1] [(.ref r1), (.int (0 : Int32))])) rfl rfl (hb hby d15_30)
  have pre13 : ∀ t, Steps p.tables e below (T12.setTop (mkF m 37 #[rv r0, rv r1, rv r1] [(.ref r0)])) t → Steps p.tables e below (s₁.setTop (entryFrame m #[(.ref r0), (.ref r1)] 3)) t := by
    intro t kt
    refine pre11 _ ?_
    show Steps p.tables e below (T10.setTop (mkF m 30 #[rv r0, rv r1, rv r1] [(.ref r1), (.int (0 : Int32))])) _
    refine st12 _ ?_
    show Steps p.tables e below (T12.setTop (mkF m 33 #[rv r0, rv r1, rv r1] [(.int (0 : Int32)), (.int (0 : Int32))])) _
    refine XS.icmpNo X12.here hx rfl (hb hby d15_33) rfl (teq (by decide)).2 ?_
    show Steps p.tables e below (T12.setTop (mkF m 36 #[rv r0, rv r1, rv r1] [])) _
    refine XS.aloadN X12.here hx rfl (hb hby d15_36) rfl rfl ?_
    exact kt
  obtain ⟨T14, X14, e14, st14⟩ := getF X12 hx hZ hown (host := "") (Or.inl (hw _ (List.mem_of_getElem? (i := 32) rfl))) Via.refl e12 F_value_r0 (g := (mkF m 37 #[rv r0, rv r1, rv r1] [(.ref r0)])) rfl rfl (hb hby d15_37)
  have pre15 : ∀ t, Steps p.tables e below (T14.setTop (mkF m 41 #[rv r0, rv r1, rv r1] [(.ref r1), (.ref y0)])) t → Steps p.tables e below (s₁.setTop (entryFrame m #[(.ref r0), (.ref r1)] 3)) t := by
    intro t kt
    refine pre13 _ ?_
    show Steps p.tables e below (T12.setTop (mkF m 37 #[rv r0, rv r1, rv r1] [(.ref r0)])) _
    refine st14 _ ?_
    show Steps p.tables e below (T14.setTop (mkF m 40 #[rv r0, rv r1, rv r1] [(.ref y0)])) _
    refine XS.aloadN X14.here hx rfl (hb hby d15_40) rfl rfl ?_
    exact kt
  obtain ⟨T16, X16, e16, st16⟩ := getF X14 hx hZ hown (host := "") (Or.inl (hw _ (List.mem_of_getElem? (i := 32) rfl))) Via.refl e14 F_value_r1 (g := (mkF m 41 #[rv r0, rv r1, rv r1] [(.ref r1), (.ref y0)])) rfl rfl (hb hby d15_41)
  have pre17 : ∀ t, Steps p.tables e below (T16.setTop (mkF m 44 #[rv r0, rv r1, rv r1] [(.ref y1), (.ref y0)])) t → Steps p.tables e below (s₁.setTop (entryFrame m #[(.ref r0), (.ref r1)] 3)) t := by
    intro t kt
    refine pre15 _ ?_
    show Steps p.tables e below (T14.setTop (mkF m 41 #[rv r0, rv r1, rv r1] [(.ref r1), (.ref y0)])) _
    refine st16 _ ?_
    exact kt
  obtain ⟨_, _, ⟨T18, L18, k18, n18⟩, -, X18, ⟨Lc18, hQ18, l18, y18, z18⟩, st18⟩ := Jvm.LawKit.callS X16 hx (y := (⟨"java/lang/StringLatin1", "equals", "([B[B)Z"⟩ : MethodName)) hown (mvT hZ (hw _ (List.mem_of_getElem? (i := 83) rfl))) (mvT hZ (hw _ (List.mem_of_getElem? (i := 84) rfl))) (mvT hZ (hw _ (List.mem_of_getElem? (i := 63) rfl))) (mvT hZ (hw _ (List.mem_of_getElem? (i := 85) rfl))) (by decide) (backOf (W := 0) (rm16v21 l Z a0 hw [] y0 y1 k1 k2 s0 s1 t0 h0 n0 (Nat.le_trans Z0 (Keep.refl h0 []).1) V_y0 V_y1) hZ (hw _ (List.mem_of_getElem? (i := 85) rfl)) (hw _ (List.mem_of_getElem? (i := 63) rfl)) (by decide) (by decide)) (g := (mkF m 44 #[rv r0, rv r1, rv r1] [(.ref y1), (.ref y0)])) rfl (by rw [hml]; rfl) (argsL := [(.ref y0), (.ref y1)]) (rest := []) (lenOf pd14 rfl) rfl (by show 2 * 0 + _ ≤ _; exact Nat.le_of_eq rfl) (hb hby d15_44) (fun _ _ => ⟨rfl, e16, (by decide : 0 + 0 ≤ _), (by decide : 0 + 0 ≤ _)⟩)
  dsimp only [Pt.U, Pt.locs, Pt.cells, Pt.slots] at X18 l18 y18 z18 st18 hQ18
  subst l18 y18 z18
  obtain ⟨rfl, N18q, hh18⟩ := hQ18
  have N18 := Fr.app N0 N18q
  have pre19 : ∀ t, Steps p.tables e below (T18.setTop (mkF m 47 #[rv r0, rv r1, rv r1] [(.int (own_la21 s0 s1 t0))])) t → Steps p.tables e below (s₁.setTop (entryFrame m #[(.ref r0), (.ref r1)] 3)) t := by
    intro t kt
    refine pre17 _ ?_
    show Steps p.tables e below (T16.setTop (mkF m 44 #[rv r0, rv r1, rv r1] [(.ref y1), (.ref y0)])) _
    refine st18 _ ?_
    exact kt
  by_cases hc47 : (own_la21 s0 s1 t0) = (0 : Int32)
  · have pre20 : ∀ t, Steps p.tables e below (T18.setTop (mkF m 55 #[rv r0, rv r1, rv r1] [(.int (0 : Int32))])) t → Steps p.tables e below (s₁.setTop (entryFrame m #[(.ref r0), (.ref r1)] 3)) t := by
      intro t kt
      refine pre19 _ ?_
      show Steps p.tables e below (T18.setTop (mkF m 47 #[rv r0, rv r1, rv r1] [(.int (own_la21 s0 s1 t0))])) _
      refine XS.ifYes X18.here hx rfl (pc0 := 47) (pc' := 54) rfl (hb hby d15_47) rfl ((if0 _ _).trans (teq hc47).1) (by decide) (by decide) ?_
      show Steps p.tables e below (T18.setTop (mkF m 54 #[rv r0, rv r1, rv r1] [])) _
      refine XS.iconst X18.here hx rfl (hb hby d15_54) ?_
      exact kt
    obtain ⟨fs, hr, hrun, hended, hW, hsame⟩ := X18.leave (v := some (.int (0 : Int32))) (fun h => by rw [Bd.returns] at h; cases h)
    refine ⟨_, _, pre20 _ ?_, hrun, hended, _, _, rfl, ?_, ⟨_, rfl⟩, hW, hsame.mono (by decide) (by decide)⟩
    · show Steps p.tables e below (T18.setTop (mkF m 55 #[rv r0, rv r1, rv r1] [(.int (0 : Int32))])) _
      exact retN X18 hx (t := .boolean) Bd.returns (by simp) (hb hby d15_55) hr
    · show Q15v21 Z r0 r1 y0 y1 k1 k2 s0 s1 t0 cs h0 n0 _ T18.heap _
      rw [hh18]
      exact ⟨congrArg (fun z => some (Value.int z)) ((if_pos hc47).trans rfl).symm, N18, rfl⟩
  · have pre21 : ∀ t, Steps p.tables e below (T18.setTop (mkF m 55 #[rv r0, rv r1, rv r1] [(.int (1 : Int32))])) t → Steps p.tables e below (s₁.setTop (entryFrame m #[(.ref r0), (.ref r1)] 3)) t := by
      intro t kt
      refine pre19 _ ?_
      show Steps p.tables e below (T18.setTop (mkF m 47 #[rv r0, rv r1, rv r1] [(.int (own_la21 s0 s1 t0))])) _
      refine XS.ifNo X18.here hx rfl (hb hby d15_47) rfl ((if0 _ _).trans (feq hc47).1) ?_
      show Steps p.tables e below (T18.setTop (mkF m 50 #[rv r0, rv r1, rv r1] [])) _
      refine XS.iconst X18.here hx rfl (hb hby d15_50) ?_
      show Steps p.tables e below (T18.setTop (mkF m 51 #[rv r0, rv r1, rv r1] [(.int (1 : Int32))])) _
      refine XS.goto X18.here hx rfl (pc0 := 51) (pc' := 55) rfl (hb hby d15_51) (by decide) (by decide) ?_
      exact kt
    obtain ⟨fs, hr, hrun, hended, hW, hsame⟩ := X18.leave (v := some (.int (1 : Int32))) (fun h => by rw [Bd.returns] at h; cases h)
    refine ⟨_, _, pre21 _ ?_, hrun, hended, _, _, rfl, ?_, ⟨_, rfl⟩, hW, hsame.mono (by decide) (by decide)⟩
    · show Steps p.tables e below (T18.setTop (mkF m 55 #[rv r0, rv r1, rv r1] [(.int (1 : Int32))])) _
      exact retN X18 hx (t := .boolean) Bd.returns (by simp) (hb hby d15_55) hr
    · show Q15v21 Z r0 r1 y0 y1 k1 k2 s0 s1 t0 cs h0 n0 _ T18.heap _
      rw [hh18]
      exact ⟨congrArg (fun z => some (Value.int z)) ((if_neg hc47).trans rfl).symm, N18, rfl⟩
def own_la22 (s0 : Int32) (s1 : Int32) (t0 : Int32) (t1 : Int32) : Int32 := (if s0 = t0 then (if s1 = t1 then (1 : Int32) else (0 : Int32)) else (0 : Int32))

theorem ef_16v22 (m : MethodId) (x0 : Addr) (x1 : Addr) : entryFrame m #[(.ref x0), (.ref x1)] 3 = mkF m 0 #[.val (.ref x0), .val (.ref x1), .unset] [] := by first | (simp [entryFrame, mkF, argsToLocals, Value.category]; done) | rfl
def Q16v22 (Z : State) (r0 : Addr) (r1 : Addr) (k1 : ClassId) (k2 : ClassId) (s0 : Int32) (s1 : Int32) (t0 : Int32) (t1 : Int32) (h0 : Heap) (n0 : Nat) (v : Option Value) (h : Heap) (L : List Loc) : Prop := v = some (.int (own_la22 s0 s1 t0 t1)) ∧ Fr n0 L ∧ h = h0
set_option maxRecDepth 65536 in
set_option maxHeartbeats 40000000 in
theorem rm16v22 (l : Launch) (Z : State) (a0 : Array Value) (hw : ∀ d ∈ tables_1, d.before a0 Z = true) (ws : List Jvm.Cond) (r0 : Addr) (r1 : Addr) (k1 : ClassId) (k2 : ClassId) (s0 : Int32) (s1 : Int32) (t0 : Int32) (t1 : Int32) (h0 : Heap) (n0 : Nat) (Z0 : n0 ≤ h0.size) (V_r0 : Arv Z h0 r0 k1 .byte (2 : Int32) [(.int s0), (.int s1)] (.int (0 : Int32))) (V_r1 : Arv Z h0 r1 k2 .byte (2 : Int32) [(.int t0), (.int t1)] (.int (0 : Int32))) :
    MetFree l (⟨"java/lang/StringLatin1", "equals", "([B[B)Z"⟩ : MethodName) (head1 (Jvm.Cond.code (⟨"java/lang/StringLatin1", "equals", "([B[B)Z"⟩ : MethodName) jdk_43_method_13_code 3 (some .boolean) :: ws) ({ frames := 0, cells := 0, slots := 0, locals := 0 } : Room)) (fun a U => a = #[(.ref r0), (.ref r1)] ∧ Z.Warmed39 U.vm ∧ U.heap = h0) (fun _ _ _ _ _ => True) (fun _ U o U' => ∃ v L, o = .returned v ∧ Q16v22 Z r0 r1 k1 k2 s0 s1 t0 t1 h0 n0 v U'.heap L ∧ FrameEnd U o U' L ({ frames := 0, cells := 0, slots := 0, locals := 0 } : Room).cells ({ frames := 0, cells := 0, slots := 0, locals := 0 } : Room).slots) := by
  refine MetFree.of_bodySF (plainFor_of_name pn0) hisR ?_
  intro p e s m args below meth c s₁ Bd hml0 hP hK
  obtain ⟨rfl, hZ, hh⟩ := hP
  have hx := Bd.exec
  have hby := Bd.bytes
  have hml : c.maxLocals = 3 := hml0
  have hown : s.vm.findClass "java/lang/StringLatin1" = some m.cls := findClass_of_methodNamed Bd.named
  have hnm := (name_of_methodNamed Bd.named Bd.method).1
  have X0 : Stand p l e ({ frames := 0, cells := 0, slots := 0, locals := 0 } : Room) s m #[(.ref r0), (.ref r1)] below meth c s₁ [] 0 0 := Stand.of_body Bd
  have e0 : s₁.heap = h0 := by rw [← hh, Bd.state]; rfl
  have N0 := Fr.nil n0
  have pre0 : ∀ t, Steps p.tables e below (s₁.setTop (mkF m 0 #[rv r0, rv r1, .unset] [])) t → Steps p.tables e below (s₁.setTop (entryFrame m #[(.ref r0), (.ref r1)] 3)) t := fun t k => castTop (ef_16v22 m r0 r1) k
  obtain ⟨cl1, Ar1, -, S1, M1, -, -⟩ := id V_r0
  obtain ⟨cl2, Ar2, -, S2, M2, -, -⟩ := id V_r1
  obtain ⟨cl3, Ar3, -, S3, M3, -, -⟩ := id V_r0
  obtain ⟨cl4, Ar4, q4, S4, M4, H4, G4⟩ := id V_r0
  have hin4 : ¬ ((0 : Int32) < 0 ∨ cl4.slots.size ≤ ((0 : Int32)).toNatClampNeg) := inb_of S4 ⟨by decide, by decide⟩
  have hat4 : cl4.slots[((0 : Int32)).toNatClampNeg]? = some (.int s0) := H4.at hin4 rfl
  obtain ⟨cl5, Ar5, q5, S5, M5, H5, G5⟩ := id V_r1
  have hin5 : ¬ ((0 : Int32) < 0 ∨ cl5.slots.size ≤ ((0 : Int32)).toNatClampNeg) := inb_of S5 ⟨by decide, by decide⟩
  have hat5 : cl5.slots[((0 : Int32)).toNatClampNeg]? = some (.int t0) := H5.at hin5 rfl
  have pre6 : ∀ t, Steps p.tables e below (s₁.setTop (mkF m 21 #[rv r0, rv r1, iv (0 : Int32)] [(.int t0), (.int s0)])) t → Steps p.tables e below (s₁.setTop (entryFrame m #[(.ref r0), (.ref r1)] 3)) t := by
    intro t kt
    refine pre0 _ ?_
    show Steps p.tables e below (s₁.setTop (mkF m 0 #[rv r0, rv r1, .unset] [])) _
    refine XS.aloadN X0.here hx rfl (hb hby d16_0) rfl rfl ?_
    show Steps p.tables e below (s₁.setTop (mkF m 1 #[rv r0, rv r1, .unset] [(.ref r0)])) _
    refine X0.arraylength hx (by rw [e0]; exact Ar1.1) (State.isArrayOf_alike hZ.alike Ar1.2.1) (g := (mkF m 1 #[rv r0, rv r1, .unset] [(.ref r0)])) rfl rfl (hb hby d16_1) _ ?_
    rw [len_of S1 M1]
    show Steps p.tables e below (s₁.setTop (mkF m 2 #[rv r0, rv r1, .unset] [(.int (2 : Int32))])) _
    refine XS.aloadN X0.here hx rfl (hb hby d16_2) rfl rfl ?_
    show Steps p.tables e below (s₁.setTop (mkF m 3 #[rv r0, rv r1, .unset] [(.ref r1), (.int (2 : Int32))])) _
    refine X0.arraylength hx (by rw [e0]; exact Ar2.1) (State.isArrayOf_alike hZ.alike Ar2.2.1) (g := (mkF m 3 #[rv r0, rv r1, .unset] [(.ref r1), (.int (2 : Int32))])) rfl rfl (hb hby d16_3) _ ?_
    rw [len_of S2 M2]
    show Steps p.tables e below (s₁.setTop (mkF m 4 #[rv r0, rv r1, .unset] [(.int (2 : Int32)), (.int (2 : Int32))])) _
    refine XS.icmpNo X0.here hx rfl (hb hby d16_4) rfl (teq (by decide)).2 ?_
    show Steps p.tables e below (s₁.setTop (mkF m 7 #[rv r0, rv r1, .unset] [])) _
    refine XS.iconst X0.here hx rfl (hb hby d16_7) ?_
    show Steps p.tables e below (s₁.setTop (mkF m 8 #[rv r0, rv r1, .unset] [(.int (0 : Int32))])) _
    refine XS.istoreN X0.here hx rfl (hb hby d16_8) rfl (l' := #[rv r0, rv r1, iv (0 : Int32)]) rfl ?_
    show Steps p.tables e below (s₁.setTop (mkF m 9 #[rv r0, rv r1, iv (0 : Int32)] [])) _
    refine XS.iloadN X0.here hx rfl (hb hby d16_9) rfl ?_
    show Steps p.tables e below (s₁.setTop (mkF m 10 #[rv r0, rv r1, iv (0 : Int32)] [(.int (0 : Int32))])) _
    refine XS.aloadN X0.here hx rfl (hb hby d16_10) rfl rfl ?_
    show Steps p.tables e below (s₁.setTop (mkF m 11 #[rv r0, rv r1, iv (0 : Int32)] [(.ref r0), (.int (0 : Int32))])) _
    refine X0.arraylength hx (by rw [e0]; exact Ar3.1) (State.isArrayOf_alike hZ.alike Ar3.2.1) (g := (mkF m 11 #[rv r0, rv r1, iv (0 : Int32)] [(.ref r0), (.int (0 : Int32))])) rfl rfl (hb hby d16_11) _ ?_
    rw [len_of S3 M3]
    show Steps p.tables e below (s₁.setTop (mkF m 12 #[rv r0, rv r1, iv (0 : Int32)] [(.int (2 : Int32)), (.int (0 : Int32))])) _
    refine XS.icmpNo X0.here hx rfl (hb hby d16_12) rfl (tlt (by decide)).2.1 ?_
    show Steps p.tables e below (s₁.setTop (mkF m 15 #[rv r0, rv r1, iv (0 : Int32)] [])) _
    refine XS.aloadN X0.here hx rfl (hb hby d16_15) rfl rfl ?_
    show Steps p.tables e below (s₁.setTop (mkF m 16 #[rv r0, rv r1, iv (0 : Int32)] [(.ref r0)])) _
    refine XS.iloadN X0.here hx rfl (hb hby d16_16) rfl ?_
    show Steps p.tables e below (s₁.setTop (mkF m 17 #[rv r0, rv r1, iv (0 : Int32)] [(.int (0 : Int32)), (.ref r0)])) _
    refine X0.baloadBytes hx (j := (0 : Int32)) (v := (.int s0)) (by rw [e0]; exact Ar4.1) (State.isArrayOf_alike hZ.alike Ar4.2.1) Ar4.2.2 hin4 hat4 (g := (mkF m 17 #[rv r0, rv r1, iv (0 : Int32)] [(.int (0 : Int32)), (.ref r0)])) rfl rfl (hb hby d16_17) _ ?_
    show Steps p.tables e below (s₁.setTop (mkF m 18 #[rv r0, rv r1, iv (0 : Int32)] [(.int s0)])) _
    refine XS.aloadN X0.here hx rfl (hb hby d16_18) rfl rfl ?_
    show Steps p.tables e below (s₁.setTop (mkF m 19 #[rv r0, rv r1, iv (0 : Int32)] [(.ref r1), (.int s0)])) _
    refine XS.iloadN X0.here hx rfl (hb hby d16_19) rfl ?_
    show Steps p.tables e below (s₁.setTop (mkF m 20 #[rv r0, rv r1, iv (0 : Int32)] [(.int (0 : Int32)), (.ref r1), (.int s0)])) _
    refine X0.baloadBytes hx (j := (0 : Int32)) (v := (.int t0)) (by rw [e0]; exact Ar5.1) (State.isArrayOf_alike hZ.alike Ar5.2.1) Ar5.2.2 hin5 hat5 (g := (mkF m 20 #[rv r0, rv r1, iv (0 : Int32)] [(.int (0 : Int32)), (.ref r1), (.int s0)])) rfl rfl (hb hby d16_20) _ ?_
    exact kt
  by_cases hc21 : s0 = t0
  · obtain ⟨cl7, Ar7, -, S7, M7, -, -⟩ := id V_r0
    obtain ⟨cl8, Ar8, q8, S8, M8, H8, G8⟩ := id V_r0
    have hin8 : ¬ ((1 : Int32) < 0 ∨ cl8.slots.size ≤ ((1 : Int32)).toNatClampNeg) := inb_of S8 ⟨by decide, by decide⟩
    have hat8 : cl8.slots[((1 : Int32)).toNatClampNeg]? = some (.int s1) := H8.at hin8 rfl
    obtain ⟨cl9, Ar9, q9, S9, M9, H9, G9⟩ := id V_r1
    have hin9 : ¬ ((1 : Int32) < 0 ∨ cl9.slots.size ≤ ((1 : Int32)).toNatClampNeg) := inb_of S9 ⟨by decide, by decide⟩
    have hat9 : cl9.slots[((1 : Int32)).toNatClampNeg]? = some (.int t1) := H9.at hin9 rfl
    have pre10 : ∀ t, Steps p.tables e below (s₁.setTop (mkF m 21 #[rv r0, rv r1, iv (1 : Int32)] [(.int t1), (.int s1)])) t → Steps p.tables e below (s₁.setTop (entryFrame m #[(.ref r0), (.ref r1)] 3)) t := by
      intro t kt
      refine pre6 _ ?_
      show Steps p.tables e below (s₁.setTop (mkF m 21 #[rv r0, rv r1, iv (0 : Int32)] [(.int t0), (.int s0)])) _
      refine XS.icmpYes X0.here hx rfl (pc0 := 21) (pc' := 26) rfl (hb hby d16_21) rfl (teq hc21).1 (by decide) (by decide) ?_
      show Steps p.tables e below (s₁.setTop (mkF m 26 #[rv r0, rv r1, iv (0 : Int32)] [])) _
      refine XS.iinc X0.here hx rfl (hb hby d16_26) rfl (l' := #[rv r0, rv r1, iv ((0 : Int32) + (1 : Int32))]) rfl ?_
      show Steps p.tables e below (s₁.setTop (mkF m 29 #[rv r0, rv r1, iv ((0 : Int32) + (1 : Int32))] [])) _
      rw [show ((0 : Int32) + (1 : Int32)) = (1 : Int32) from (by decide)]
      show Steps p.tables e below (s₁.setTop (mkF m 29 #[rv r0, rv r1, iv (1 : Int32)] [])) _
      refine XS.goto X0.here hx rfl (pc0 := 29) (pc' := 9) rfl (hb hby d16_29) (by decide) (by decide) ?_
      show Steps p.tables e below (s₁.setTop (mkF m 9 #[rv r0, rv r1, iv (1 : Int32)] [])) _
      refine XS.iloadN X0.here hx rfl (hb hby d16_9) rfl ?_
      show Steps p.tables e below (s₁.setTop (mkF m 10 #[rv r0, rv r1, iv (1 : Int32)] [(.int (1 : Int32))])) _
      refine XS.aloadN X0.here hx rfl (hb hby d16_10) rfl rfl ?_
      show Steps p.tables e below (s₁.setTop (mkF m 11 #[rv r0, rv r1, iv (1 : Int32)] [(.ref r0), (.int (1 : Int32))])) _
      refine X0.arraylength hx (by rw [e0]; exact Ar7.1) (State.isArrayOf_alike hZ.alike Ar7.2.1) (g := (mkF m 11 #[rv r0, rv r1, iv (1 : Int32)] [(.ref r0), (.int (1 : Int32))])) rfl rfl (hb hby d16_11) _ ?_
      rw [len_of S7 M7]
      show Steps p.tables e below (s₁.setTop (mkF m 12 #[rv r0, rv r1, iv (1 : Int32)] [(.int (2 : Int32)), (.int (1 : Int32))])) _
      refine XS.icmpNo X0.here hx rfl (hb hby d16_12) rfl (tlt (by decide)).2.1 ?_
      show Steps p.tables e below (s₁.setTop (mkF m 15 #[rv r0, rv r1, iv (1 : Int32)] [])) _
      refine XS.aloadN X0.here hx rfl (hb hby d16_15) rfl rfl ?_
      show Steps p.tables e below (s₁.setTop (mkF m 16 #[rv r0, rv r1, iv (1 : Int32)] [(.ref r0)])) _
      refine XS.iloadN X0.here hx rfl (hb hby d16_16) rfl ?_
      show Steps p.tables e below (s₁.setTop (mkF m 17 #[rv r0, rv r1, iv (1 : Int32)] [(.int (1 : Int32)), (.ref r0)])) _
      refine X0.baloadBytes hx (j := (1 : Int32)) (v := (.int s1)) (by rw [e0]; exact Ar8.1) (State.isArrayOf_alike hZ.alike Ar8.2.1) Ar8.2.2 hin8 hat8 (g := (mkF m 17 #[rv r0, rv r1, iv (1 : Int32)] [(.int (1 : Int32)), (.ref r0)])) rfl rfl (hb hby d16_17) _ ?_
      show Steps p.tables e below (s₁.setTop (mkF m 18 #[rv r0, rv r1, iv (1 : Int32)] [(.int s1)])) _
      refine XS.aloadN X0.here hx rfl (hb hby d16_18) rfl rfl ?_
      show Steps p.tables e below (s₁.setTop (mkF m 19 #[rv r0, rv r1, iv (1 : Int32)] [(.ref r1), (.int s1)])) _
      refine XS.iloadN X0.here hx rfl (hb hby d16_19) rfl ?_
      show Steps p.tables e below (s₁.setTop (mkF m 20 #[rv r0, rv r1, iv (1 : Int32)] [(.int (1 : Int32)), (.ref r1), (.int s1)])) _
      refine X0.baloadBytes hx (j := (1 : Int32)) (v := (.int t1)) (by rw [e0]; exact Ar9.1) (State.isArrayOf_alike hZ.alike Ar9.2.1) Ar9.2.2 hin9 hat9 (g := (mkF m 20 #[rv r0, rv r1, iv (1 : Int32)] [(.int (1 : Int32)), (.ref r1), (.int s1)])) rfl rfl (hb hby d16_20) _ ?_
      exact kt
    by_cases hc21_11 : s1 = t1
    · obtain ⟨cl12, Ar12, -, S12, M12, -, -⟩ := id V_r0
      have pre13 : ∀ t, Steps p.tables e below (s₁.setTop (mkF m 33 #[rv r0, rv r1, iv (2 : Int32)] [(.int (1 : Int32))])) t → Steps p.tables e below (s₁.setTop (entryFrame m #[(.ref r0), (.ref r1)] 3)) t := by
        intro t kt
        refine pre10 _ ?_
        show Steps p.tables e below (s₁.setTop (mkF m 21 #[rv r0, rv r1, iv (1 : Int32)] [(.int t1), (.int s1)])) _
        refine XS.icmpYes X0.here hx rfl (pc0 := 21) (pc' := 26) rfl (hb hby d16_21) rfl (teq hc21_11).1 (by decide) (by decide) ?_
        show Steps p.tables e below (s₁.setTop (mkF m 26 #[rv r0, rv r1, iv (1 : Int32)] [])) _
        refine XS.iinc X0.here hx rfl (hb hby d16_26) rfl (l' := #[rv r0, rv r1, iv ((1 : Int32) + (1 : Int32))]) rfl ?_
        show Steps p.tables e below (s₁.setTop (mkF m 29 #[rv r0, rv r1, iv ((1 : Int32) + (1 : Int32))] [])) _
        rw [show ((1 : Int32) + (1 : Int32)) = (2 : Int32) from (by decide)]
        show Steps p.tables e below (s₁.setTop (mkF m 29 #[rv r0, rv r1, iv (2 : Int32)] [])) _
        refine XS.goto X0.here hx rfl (pc0 := 29) (pc' := 9) rfl (hb hby d16_29) (by decide) (by decide) ?_
        show Steps p.tables e below (s₁.setTop (mkF m 9 #[rv r0, rv r1, iv (2 : Int32)] [])) _
        refine XS.iloadN X0.here hx rfl (hb hby d16_9) rfl ?_
        show Steps p.tables e below (s₁.setTop (mkF m 10 #[rv r0, rv r1, iv (2 : Int32)] [(.int (2 : Int32))])) _
        refine XS.aloadN X0.here hx rfl (hb hby d16_10) rfl rfl ?_
        show Steps p.tables e below (s₁.setTop (mkF m 11 #[rv r0, rv r1, iv (2 : Int32)] [(.ref r0), (.int (2 : Int32))])) _
        refine X0.arraylength hx (by rw [e0]; exact Ar12.1) (State.isArrayOf_alike hZ.alike Ar12.2.1) (g := (mkF m 11 #[rv r0, rv r1, iv (2 : Int32)] [(.ref r0), (.int (2 : Int32))])) rfl rfl (hb hby d16_11) _ ?_
        rw [len_of S12 M12]
        show Steps p.tables e below (s₁.setTop (mkF m 12 #[rv r0, rv r1, iv (2 : Int32)] [(.int (2 : Int32)), (.int (2 : Int32))])) _
        refine XS.icmpYes X0.here hx rfl (pc0 := 12) (pc' := 32) rfl (hb hby d16_12) rfl (flt (by decide)).2.1 (by decide) (by decide) ?_
        show Steps p.tables e below (s₁.setTop (mkF m 32 #[rv r0, rv r1, iv (2 : Int32)] [])) _
        refine XS.iconst X0.here hx rfl (hb hby d16_32) ?_
        exact kt
      obtain ⟨fs, hr, hrun, hended, hW, hsame⟩ := X0.leave (v := some (.int (1 : Int32))) (fun h => by rw [Bd.returns] at h; cases h)
      refine ⟨_, _, pre13 _ ?_, hrun, hended, _, _, rfl, ?_, ⟨_, rfl⟩, hW, hsame.mono (by decide) (by decide)⟩
      · show Steps p.tables e below (s₁.setTop (mkF m 33 #[rv r0, rv r1, iv (2 : Int32)] [(.int (1 : Int32))])) _
        exact retN X0 hx (t := .boolean) Bd.returns (by simp) (hb hby d16_33) hr
      · show Q16v22 Z r0 r1 k1 k2 s0 s1 t0 t1 h0 n0 _ s₁.heap _
        rw [e0]
        exact ⟨congrArg (fun z => some (Value.int z)) ((if_pos hc21).trans ((if_pos hc21_11).trans rfl)).symm, N0, rfl⟩
    · have pre14 : ∀ t, Steps p.tables e below (s₁.setTop (mkF m 25 #[rv r0, rv r1, iv (1 : Int32)] [(.int (0 : Int32))])) t → Steps p.tables e below (s₁.setTop (entryFrame m #[(.ref r0), (.ref r1)] 3)) t := by
        intro t kt
        refine pre10 _ ?_
        show Steps p.tables e below (s₁.setTop (mkF m 21 #[rv r0, rv r1, iv (1 : Int32)] [(.int t1), (.int s1)])) _
        refine XS.icmpNo X0.here hx rfl (hb hby d16_21) rfl (feq hc21_11).1 ?_
        show Steps p.tables e below (s₁.setTop (mkF m 24 #[rv r0, rv r1, iv (1 : Int32)] [])) _
        refine XS.iconst X0.here hx rfl (hb hby d16_24) ?_
        exact kt
      obtain ⟨fs, hr, hrun, hended, hW, hsame⟩ := X0.leave (v := some (.int (0 : Int32))) (fun h => by rw [Bd.returns] at h; cases h)
      refine ⟨_, _, pre14 _ ?_, hrun, hended, _, _, rfl, ?_, ⟨_, rfl⟩, hW, hsame.mono (by decide) (by decide)⟩
      · show Steps p.tables e below (s₁.setTop (mkF m 25 #[rv r0, rv r1, iv (1 : Int32)] [(.int (0 : Int32))])) _
        exact retN X0 hx (t := .boolean) Bd.returns (by simp) (hb hby d16_25) hr
      · show Q16v22 Z r0 r1 k1 k2 s0 s1 t0 t1 h0 n0 _ s₁.heap _
        rw [e0]
        exact ⟨congrArg (fun z => some (Value.int z)) ((if_pos hc21).trans ((if_neg hc21_11).trans rfl)).symm, N0, rfl⟩
  · have pre15 : ∀ t, Steps p.tables e below (s₁.setTop (mkF m 25 #[rv r0, rv r1, iv (0 : Int32)] [(.int (0 : Int32))])) t → Steps p.tables e below (s₁.setTop (entryFrame m #[(.ref r0), (.ref r1)] 3)) t := by
      intro t kt
      refine pre6 _ ?_
      show Steps p.tables e below (s₁.setTop (mkF m 21 #[rv r0, rv r1, iv (0 : Int32)] [(.int t0), (.int s0)])) _
      refine XS.icmpNo X0.here hx rfl (hb hby d16_21) rfl (feq hc21).1 ?_
      show Steps p.tables e below (s₁.setTop (mkF m 24 #[rv r0, rv r1, iv (0 : Int32)] [])) _
      refine XS.iconst X0.here hx rfl (hb hby d16_24) ?_
      exact kt
    obtain ⟨fs, hr, hrun, hended, hW, hsame⟩ := X0.leave (v := some (.int (0 : Int32))) (fun h => by rw [Bd.returns] at h; cases h)
    refine ⟨_, _, pre15 _ ?_, hrun, hended, _, _, rfl, ?_, ⟨_, rfl⟩, hW, hsame.mono (by decide) (by decide)⟩
    · show Steps p.tables e below (s₁.setTop (mkF m 25 #[rv r0, rv r1, iv (0 : Int32)] [(.int (0 : Int32))])) _
      exact retN X0 hx (t := .boolean) Bd.returns (by simp) (hb hby d16_25) hr
    · show Q16v22 Z r0 r1 k1 k2 s0 s1 t0 t1 h0 n0 _ s₁.heap _
      rw [e0]
      exact ⟨congrArg (fun z => some (Value.int z)) ((if_neg hc21).trans rfl).symm, N0, rfl⟩
def own_se22 (s0 : Int32) (s1 : Int32) (t0 : Int32) (t1 : Int32) : Int32 := if (own_la22 s0 s1 t0 t1) = (0 : Int32) then 0 else 1

theorem ef_15v22 (m : MethodId) (x0 : Addr) (x1 : Addr) : entryFrame m #[(.ref x0), (.ref x1)] 3 = mkF m 0 #[.val (.ref x0), .val (.ref x1), .unset] [] := by first | (simp [entryFrame, mkF, argsToLocals, Value.category]; done) | rfl
def Q15v22 (Z : State) (r0 : Addr) (r1 : Addr) (y0 : Addr) (y1 : Addr) (k1 : ClassId) (k2 : ClassId) (s0 : Int32) (s1 : Int32) (t0 : Int32) (t1 : Int32) (cs : Int32) (h0 : Heap) (n0 : Nat) (v : Option Value) (h : Heap) (L : List Loc) : Prop := v = some (.int (own_se22 s0 s1 t0 t1)) ∧ Fr n0 L ∧ h = h0
set_option maxRecDepth 65536 in
set_option maxHeartbeats 40000000 in
theorem rm15v22 (l : Launch) (Z : State) (a0 : Array Value) (hw : ∀ d ∈ tables_1, d.before a0 Z = true) (ws : List Jvm.Cond) (r0 : Addr) (r1 : Addr) (y0 : Addr) (y1 : Addr) (k1 : ClassId) (k2 : ClassId) (s0 : Int32) (s1 : Int32) (t0 : Int32) (t1 : Int32) (cs : Int32) (h0 : Heap) (n0 : Nat) (Z0 : n0 ≤ h0.size) (O0 : Old Z n0 h0) (S_cs : Sta Z Z.heap "java/lang/String" "COMPACT_STRINGS" "Z" (.int cs)) (hcs : ¬ (cs = (0 : Int32))) (F_value_r0 : Fld Z h0 r0 "java/lang/String" "value" "[B" (.ref y0)) (F_coder_r0 : Fld Z h0 r0 "java/lang/String" "coder" "B" (.int (0 : Int32))) (E_r0 : Exa Z h0 r0 "java/lang/String") (V_y0 : Arv Z h0 y0 k1 .byte (2 : Int32) [(.int s0), (.int s1)] (.int (0 : Int32))) (F_value_r1 : Fld Z h0 r1 "java/lang/String" "value" "[B" (.ref y1)) (F_coder_r1 : Fld Z h0 r1 "java/lang/String" "coder" "B" (.int (0 : Int32))) (E_r1 : Exa Z h0 r1 "java/lang/String") (V_y1 : Arv Z h0 y1 k2 .byte (2 : Int32) [(.int t0), (.int t1)] (.int (0 : Int32))) (hne : r0 ≠ r1) :
    MetFree l (⟨"java/lang/String", "equals", "(Ljava/lang/Object;)Z"⟩ : MethodName) (head1 (Jvm.Cond.code (⟨"java/lang/String", "equals", "(Ljava/lang/Object;)Z"⟩ : MethodName) jdk_42_method_66_code 3 (some .boolean) :: ws) ({ frames := 1, cells := 0, slots := 0, locals := 14 } : Room)) (fun a U => a = #[(.ref r0), (.ref r1)] ∧ Z.Warmed39 U.vm ∧ U.heap = h0) (fun _ _ _ _ _ => True) (fun _ U o U' => ∃ v L, o = .returned v ∧ Q15v22 Z r0 r1 y0 y1 k1 k2 s0 s1 t0 t1 cs h0 n0 v U'.heap L ∧ FrameEnd U o U' L ({ frames := 1, cells := 0, slots := 0, locals := 14 } : Room).cells ({ frames := 1, cells := 0, slots := 0, locals := 14 } : Room).slots) := by
  refine MetFree.of_bodySF (plainFor_of_name pn1) hisR ?_
  intro p e s m args below meth c s₁ Bd hml0 hP hK
  obtain ⟨rfl, hZ, hh⟩ := hP
  have hx := Bd.exec
  have hby := Bd.bytes
  have hml : c.maxLocals = 3 := hml0
  have hown : s.vm.findClass "java/lang/String" = some m.cls := findClass_of_methodNamed Bd.named
  have hnm := (name_of_methodNamed Bd.named Bd.method).1
  have X0 : Stand p l e ({ frames := 1, cells := 0, slots := 0, locals := 14 } : Room) s m #[(.ref r0), (.ref r1)] below meth c s₁ [] 0 0 := Stand.of_body Bd
  have e0 : s₁.heap = h0 := by rw [← hh, Bd.state]; rfl
  have N0 := Fr.nil n0
  have pre0 : ∀ t, Steps p.tables e below (s₁.setTop (mkF m 0 #[rv r0, rv r1, .unset] [])) t → Steps p.tables e below (s₁.setTop (entryFrame m #[(.ref r0), (.ref r1)] 3)) t := fun t k => castTop (ef_15v22 m r0 r1) k
  have pre1 : ∀ t, Steps p.tables e below (s₁.setTop (mkF m 8 #[rv r0, rv r1, .unset] [(.ref r1)])) t → Steps p.tables e below (s₁.setTop (entryFrame m #[(.ref r0), (.ref r1)] 3)) t := by
    intro t kt
    refine pre0 _ ?_
    show Steps p.tables e below (s₁.setTop (mkF m 0 #[rv r0, rv r1, .unset] [])) _
    refine XS.aloadN X0.here hx rfl (hb hby d15_0) rfl rfl ?_
    show Steps p.tables e below (s₁.setTop (mkF m 1 #[rv r0, rv r1, .unset] [(.ref r0)])) _
    refine XS.aloadN X0.here hx rfl (hb hby d15_1) rfl rfl ?_
    show Steps p.tables e below (s₁.setTop (mkF m 2 #[rv r0, rv r1, .unset] [(.ref r1), (.ref r0)])) _
    refine Jvm.RoadKit.acmp (g := (mkF m 2 #[rv r0, rv r1, .unset] [(.ref r1), (.ref r0)])) X0 hx rfl rfl rfl (pc0 := 2) (pc' := 7) (same := false) rfl (hb hby d15_2) rfl (decide_eq_false fun q => hne (Value.ref.inj q)) (by decide) (by decide) ?_
    show Steps p.tables e below (s₁.setTop (mkF m 7 #[rv r0, rv r1, .unset] [])) _
    refine XS.aloadN X0.here hx rfl (hb hby d15_7) rfl rfl ?_
    exact kt
  obtain ⟨T2, X2, e2, st2⟩ := instY X0 hx hZ hown (hw _ (List.mem_of_getElem? (i := 65) rfl)) e0 (Ins.self E_r1) (g := (mkF m 8 #[rv r0, rv r1, .unset] [(.ref r1)])) rfl rfl (hb hby d15_8)
  have pre3 : ∀ t, Steps p.tables e below (T2.setTop (mkF m 15 #[rv r0, rv r1, .unset] [(.ref r1)])) t → Steps p.tables e below (s₁.setTop (entryFrame m #[(.ref r0), (.ref r1)] 3)) t := by
    intro t kt
    refine pre1 _ ?_
    show Steps p.tables e below (s₁.setTop (mkF m 8 #[rv r0, rv r1, .unset] [(.ref r1)])) _
    refine st2 _ ?_
    show Steps p.tables e below (T2.setTop (mkF m 11 #[rv r0, rv r1, .unset] [(.int (1 : Int32))])) _
    refine XS.ifNo X2.here hx rfl (hb hby d15_11) rfl ((if0 _ _).trans (feq (by decide)).1) ?_
    show Steps p.tables e below (T2.setTop (mkF m 14 #[rv r0, rv r1, .unset] [])) _
    refine XS.aloadN X2.here hx rfl (hb hby d15_14) rfl rfl ?_
    exact kt
  obtain ⟨T4, X4, e4, st4⟩ := castY X2 hx hZ hown (hw _ (List.mem_of_getElem? (i := 65) rfl)) e2 (Ins.self E_r1) (g := (mkF m 15 #[rv r0, rv r1, .unset] [(.ref r1)])) rfl rfl (hb hby d15_15)
  have pre5 : ∀ t, Steps p.tables e below (T4.setTop (mkF m 19 #[rv r0, rv r1, rv r1] [])) t → Steps p.tables e below (s₁.setTop (entryFrame m #[(.ref r0), (.ref r1)] 3)) t := by
    intro t kt
    refine pre3 _ ?_
    show Steps p.tables e below (T2.setTop (mkF m 15 #[rv r0, rv r1, .unset] [(.ref r1)])) _
    refine st4 _ ?_
    show Steps p.tables e below (T4.setTop (mkF m 18 #[rv r0, rv r1, .unset] [(.ref r1)])) _
    refine XS.astoreN X4.here hx rfl (hb hby d15_18) rfl rfl (l' := #[rv r0, rv r1, rv r1]) rfl ?_
    exact kt
  obtain ⟨T6, X6, e6, st6⟩ := getS2 X4 hx hZ hown (host := "") (Or.inl (hw _ (List.mem_of_getElem? (i := 18) rfl))) Via.refl e4 (S_cs.ext (O0.keep (Keep.refl h0 []) all0).2) (g := (mkF m 19 #[rv r0, rv r1, rv r1] [])) rfl (hb hby d15_19)
  have pre8 : ∀ t, Steps p.tables e below (T6.setTop (mkF m 22 #[rv r0, rv r1, rv r1] [(.int cs)])) t → Steps p.tables e below (s₁.setTop (entryFrame m #[(.ref r0), (.ref r1)] 3)) t := by
    intro t kt
    refine pre5 _ ?_
    show Steps p.tables e below (T4.setTop (mkF m 19 #[rv r0, rv r1, rv r1] [])) _
    refine st6 _ ?_
    exact kt
  have hc22_7 : ¬ (cs = (0 : Int32)) := hcs
  have pre9 : ∀ t, Steps p.tables e below (T6.setTop (mkF m 26 #[rv r0, rv r1, rv r1] [(.ref r0)])) t → Steps p.tables e below (s₁.setTop (entryFrame m #[(.ref r0), (.ref r1)] 3)) t := by
    intro t kt
    refine pre8 _ ?_
    show Steps p.tables e below (T6.setTop (mkF m 22 #[rv r0, rv r1, rv r1] [(.int cs)])) _
    refine XS.ifNo X6.here hx rfl (hb hby d15_22) rfl ((if0 _ _).trans (feq hc22_7).1) ?_
    show Steps p.tables e below (T6.setTop (mkF m 25 #[rv r0, rv r1, rv r1] [])) _
    refine XS.aloadN X6.here hx rfl (hb hby d15_25) rfl rfl ?_
    exact kt
  obtain ⟨T10, X10, e10, st10⟩ := getF X6 hx hZ hown (host := "") (Or.inl (hw _ (List.mem_of_getElem? (i := 30) rfl))) Via.refl e6 F_coder_r0 (g := (mkF m 26 #[rv r0, rv r1, rv r1] [(.ref r0)])) rfl rfl (hb hby d15_26)
  have pre11 : ∀ t, Steps p.tables e below (T10.setTop (mkF m 30 #[rv r0, rv r1, rv r1] [(.ref r1), (.int (0 : Int32))])) t → Steps p.tables e below (s₁.setTop (entryFrame m #[(.ref r0), (.ref r1)] 3)) t := by
    intro t kt
    refine pre9 _ ?_
    show Steps p.tables e below (T6.setTop (mkF m 26 #[rv r0, rv r1, rv r1] [(.ref r0)])) _
    refine st10 _ ?_
    show Steps p.tables e below (T10.setTop (mkF m 29 #[rv r0, rv r1, rv r1] [(.int (0 : Int32))])) _
    refine XS.aloadN X10.here hx rfl (hb hby d15_29) rfl rfl ?_
    exact kt
  obtain ⟨T12, X12, e12, st12⟩ := getF X10 hx hZ hown (host := "") (Or.inl (hw _ (List.mem_of_getElem? (i := 30) rfl))) Via.refl e10 F_coder_r1 (g := (mkF m 30 #[rv r0, rv r1, rv r1] [(.ref r1), (.int (0 : Int32))])) rfl rfl (hb hby d15_30)
  have pre13 : ∀ t, Steps p.tables e below (T12.setTop (mkF m 37 #[rv r0, rv r1, rv r1] [(.ref r0)])) t → Steps p.tables e below (s₁.setTop (entryFrame m #[(.ref r0), (.ref r1)] 3)) t := by
    intro t kt
    refine pre11 _ ?_
    show Steps p.tables e below (T10.setTop (mkF m 30 #[rv r0, rv r1, rv r1] [(.ref r1), (.int (0 : Int32))])) _
    refine st12 _ ?_
    show Steps p.tables e below (T12.setTop (mkF m 33 #[rv r0, rv r1, rv r1] [(.int (0 : Int32)), (.int (0 : Int32))])) _
    refine XS.icmpNo X12.here hx rfl (hb hby d15_33) rfl (teq (by decide)).2 ?_
    show Steps p.tables e below (T12.setTop (mkF m 36 #[rv r0, rv r1, rv r1] [])) _
    refine XS.aloadN X12.here hx rfl (hb hby d15_36) rfl rfl ?_
    exact kt
  obtain ⟨T14, X14, e14, st14⟩ := getF X12 hx hZ hown (host := "") (Or.inl (hw _ (List.mem_of_getElem? (i := 32) rfl))) Via.refl e12 F_value_r0 (g := (mkF m 37 #[rv r0, rv r1, rv r1] [(.ref r0)])) rfl rfl (hb hby d15_37)
  have pre15 : ∀ t, Steps p.tables e below (T14.setTop (mkF m 41 #[rv r0, rv r1, rv r1] [(.ref r1), (.ref y0)])) t → Steps p.tables e below (s₁.setTop (entryFrame m #[(.ref r0), (.ref r1)] 3)) t := by
    intro t kt
    refine pre13 _ ?_
    show Steps p.tables e below (T12.setTop (mkF m 37 #[rv r0, rv r1, rv r1] [(.ref r0)])) _
    refine st14 _ ?_
    show Steps p.tables e below (T14.setTop (mkF m 40 #[rv r0, rv r1, rv r1] [(.ref y0)])) _
    refine XS.aloadN X14.here hx rfl (hb hby d15_40) rfl rfl ?_
    exact kt
  obtain ⟨T16, X16, e16, st16⟩ := getF X14 hx hZ hown (host := "") (Or.inl (hw _ (List.mem_of_getElem? (i := 32) rfl))) Via.refl e14 F_value_r1 (g := (mkF m 41 #[rv r0, rv r1, rv r1] [(.ref r1), (.ref y0)])) rfl rfl (hb hby d15_41)
  have pre17 : ∀ t, Steps p.tables e below (T16.setTop (mkF m 44 #[rv r0, rv r1, rv r1] [(.ref y1), (.ref y0)])) t → Steps p.tables e below (s₁.setTop (entryFrame m #[(.ref r0), (.ref r1)] 3)) t := by
    intro t kt
    refine pre15 _ ?_
    show Steps p.tables e below (T14.setTop (mkF m 41 #[rv r0, rv r1, rv r1] [(.ref r1), (.ref y0)])) _
    refine st16 _ ?_
    exact kt
  obtain ⟨_, _, ⟨T18, L18, k18, n18⟩, -, X18, ⟨Lc18, hQ18, l18, y18, z18⟩, st18⟩ := Jvm.LawKit.callS X16 hx (y := (⟨"java/lang/StringLatin1", "equals", "([B[B)Z"⟩ : MethodName)) hown (mvT hZ (hw _ (List.mem_of_getElem? (i := 83) rfl))) (mvT hZ (hw _ (List.mem_of_getElem? (i := 84) rfl))) (mvT hZ (hw _ (List.mem_of_getElem? (i := 63) rfl))) (mvT hZ (hw _ (List.mem_of_getElem? (i := 85) rfl))) (by decide) (backOf (W := 0) (rm16v22 l Z a0 hw [] y0 y1 k1 k2 s0 s1 t0 t1 h0 n0 (Nat.le_trans Z0 (Keep.refl h0 []).1) V_y0 V_y1) hZ (hw _ (List.mem_of_getElem? (i := 85) rfl)) (hw _ (List.mem_of_getElem? (i := 63) rfl)) (by decide) (by decide)) (g := (mkF m 44 #[rv r0, rv r1, rv r1] [(.ref y1), (.ref y0)])) rfl (by rw [hml]; rfl) (argsL := [(.ref y0), (.ref y1)]) (rest := []) (lenOf pd14 rfl) rfl (by show 2 * 0 + _ ≤ _; exact Nat.le_of_eq rfl) (hb hby d15_44) (fun _ _ => ⟨rfl, e16, (by decide : 0 + 0 ≤ _), (by decide : 0 + 0 ≤ _)⟩)
  dsimp only [Pt.U, Pt.locs, Pt.cells, Pt.slots] at X18 l18 y18 z18 st18 hQ18
  subst l18 y18 z18
  obtain ⟨rfl, N18q, hh18⟩ := hQ18
  have N18 := Fr.app N0 N18q
  have pre19 : ∀ t, Steps p.tables e below (T18.setTop (mkF m 47 #[rv r0, rv r1, rv r1] [(.int (own_la22 s0 s1 t0 t1))])) t → Steps p.tables e below (s₁.setTop (entryFrame m #[(.ref r0), (.ref r1)] 3)) t := by
    intro t kt
    refine pre17 _ ?_
    show Steps p.tables e below (T16.setTop (mkF m 44 #[rv r0, rv r1, rv r1] [(.ref y1), (.ref y0)])) _
    refine st18 _ ?_
    exact kt
  by_cases hc47 : (own_la22 s0 s1 t0 t1) = (0 : Int32)
  · have pre20 : ∀ t, Steps p.tables e below (T18.setTop (mkF m 55 #[rv r0, rv r1, rv r1] [(.int (0 : Int32))])) t → Steps p.tables e below (s₁.setTop (entryFrame m #[(.ref r0), (.ref r1)] 3)) t := by
      intro t kt
      refine pre19 _ ?_
      show Steps p.tables e below (T18.setTop (mkF m 47 #[rv r0, rv r1, rv r1] [(.int (own_la22 s0 s1 t0 t1))])) _
      refine XS.ifYes X18.here hx rfl (pc0 := 47) (pc' := 54) rfl (hb hby d15_47) rfl ((if0 _ _).trans (teq hc47).1) (by decide) (by decide) ?_
      show Steps p.tables e below (T18.setTop (mkF m 54 #[rv r0, rv r1, rv r1] [])) _
      refine XS.iconst X18.here hx rfl (hb hby d15_54) ?_
      exact kt
    obtain ⟨fs, hr, hrun, hended, hW, hsame⟩ := X18.leave (v := some (.int (0 : Int32))) (fun h => by rw [Bd.returns] at h; cases h)
    refine ⟨_, _, pre20 _ ?_, hrun, hended, _, _, rfl, ?_, ⟨_, rfl⟩, hW, hsame.mono (by decide) (by decide)⟩
    · show Steps p.tables e below (T18.setTop (mkF m 55 #[rv r0, rv r1, rv r1] [(.int (0 : Int32))])) _
      exact retN X18 hx (t := .boolean) Bd.returns (by simp) (hb hby d15_55) hr
    · show Q15v22 Z r0 r1 y0 y1 k1 k2 s0 s1 t0 t1 cs h0 n0 _ T18.heap _
      rw [hh18]
      exact ⟨congrArg (fun z => some (Value.int z)) ((if_pos hc47).trans rfl).symm, N18, rfl⟩
  · have pre21 : ∀ t, Steps p.tables e below (T18.setTop (mkF m 55 #[rv r0, rv r1, rv r1] [(.int (1 : Int32))])) t → Steps p.tables e below (s₁.setTop (entryFrame m #[(.ref r0), (.ref r1)] 3)) t := by
      intro t kt
      refine pre19 _ ?_
      show Steps p.tables e below (T18.setTop (mkF m 47 #[rv r0, rv r1, rv r1] [(.int (own_la22 s0 s1 t0 t1))])) _
      refine XS.ifNo X18.here hx rfl (hb hby d15_47) rfl ((if0 _ _).trans (feq hc47).1) ?_
      show Steps p.tables e below (T18.setTop (mkF m 50 #[rv r0, rv r1, rv r1] [])) _
      refine XS.iconst X18.here hx rfl (hb hby d15_50) ?_
      show Steps p.tables e below (T18.setTop (mkF m 51 #[rv r0, rv r1, rv r1] [(.int (1 : Int32))])) _
      refine XS.goto X18.here hx rfl (pc0 := 51) (pc' := 55) rfl (hb hby d15_51) (by decide) (by decide) ?_
      exact kt
    obtain ⟨fs, hr, hrun, hended, hW, hsame⟩ := X18.leave (v := some (.int (1 : Int32))) (fun h => by rw [Bd.returns] at h; cases h)
    refine ⟨_, _, pre21 _ ?_, hrun, hended, _, _, rfl, ?_, ⟨_, rfl⟩, hW, hsame.mono (by decide) (by decide)⟩
    · show Steps p.tables e below (T18.setTop (mkF m 55 #[rv r0, rv r1, rv r1] [(.int (1 : Int32))])) _
      exact retN X18 hx (t := .boolean) Bd.returns (by simp) (hb hby d15_55) hr
    · show Q15v22 Z r0 r1 y0 y1 k1 k2 s0 s1 t0 t1 cs h0 n0 _ T18.heap _
      rw [hh18]
      exact ⟨congrArg (fun z => some (Value.int z)) ((if_neg hc47).trans rfl).symm, N18, rfl⟩
theorem d15_5 : decode jdk_42_method_66_code 5 = .ok (.iconst 1, 1) := by decide +kernel
theorem d15_6 : decode jdk_42_method_66_code 6 = .ok (.ireturn, 1) := by decide +kernel
theorem ef_15same (m : MethodId) (x0 : Addr) (x1 : Addr) : entryFrame m #[(.ref x0), (.ref x1)] 3 = mkF m 0 #[.val (.ref x0), .val (.ref x1), .unset] [] := by first | (simp [entryFrame, mkF, argsToLocals, Value.category]; done) | rfl
def Q15same (Z : State) (r0 : Addr) (h0 : Heap) (n0 : Nat) (v : Option Value) (h : Heap) (L : List Loc) : Prop := v = some (.int 1) ∧ Fr n0 L ∧ h = h0
set_option maxRecDepth 65536 in
set_option maxHeartbeats 40000000 in
theorem rm15same (l : Launch) (Z : State) (a0 : Array Value) (hw : ∀ d ∈ tables_1, d.before a0 Z = true) (ws : List Jvm.Cond) (r0 : Addr) (h0 : Heap) (n0 : Nat) (Z0 : n0 ≤ h0.size) :
    MetFree l (⟨"java/lang/String", "equals", "(Ljava/lang/Object;)Z"⟩ : MethodName) (head1 (Jvm.Cond.code (⟨"java/lang/String", "equals", "(Ljava/lang/Object;)Z"⟩ : MethodName) jdk_42_method_66_code 3 (some .boolean) :: ws) ({ frames := 0, cells := 0, slots := 0, locals := 0 } : Room)) (fun a U => a = #[(.ref r0), (.ref r0)] ∧ Z.Warmed39 U.vm ∧ U.heap = h0) (fun _ _ _ _ _ => True) (fun _ U o U' => ∃ v L, o = .returned v ∧ Q15same Z r0 h0 n0 v U'.heap L ∧ FrameEnd U o U' L ({ frames := 0, cells := 0, slots := 0, locals := 0 } : Room).cells ({ frames := 0, cells := 0, slots := 0, locals := 0 } : Room).slots) := by
  refine MetFree.of_bodySF (plainFor_of_name pn1) hisR ?_
  intro p e s m args below meth c s₁ Bd hml0 hP hK
  obtain ⟨rfl, hZ, hh⟩ := hP
  have hx := Bd.exec
  have hby := Bd.bytes
  have hml : c.maxLocals = 3 := hml0
  have hown : s.vm.findClass "java/lang/String" = some m.cls := findClass_of_methodNamed Bd.named
  have hnm := (name_of_methodNamed Bd.named Bd.method).1
  have X0 : Stand p l e ({ frames := 0, cells := 0, slots := 0, locals := 0 } : Room) s m #[(.ref r0), (.ref r0)] below meth c s₁ [] 0 0 := Stand.of_body Bd
  have e0 : s₁.heap = h0 := by rw [← hh, Bd.state]; rfl
  have N0 := Fr.nil n0
  have pre0 : ∀ t, Steps p.tables e below (s₁.setTop (mkF m 0 #[rv r0, rv r0, .unset] [])) t → Steps p.tables e below (s₁.setTop (entryFrame m #[(.ref r0), (.ref r0)] 3)) t := fun t k => castTop (ef_15same m r0 r0) k
  have pre1 : ∀ t, Steps p.tables e below (s₁.setTop (mkF m 6 #[rv r0, rv r0, .unset] [(.int (1 : Int32))])) t → Steps p.tables e below (s₁.setTop (entryFrame m #[(.ref r0), (.ref r0)] 3)) t := by
    intro t kt
    refine pre0 _ ?_
    show Steps p.tables e below (s₁.setTop (mkF m 0 #[rv r0, rv r0, .unset] [])) _
    refine XS.aloadN X0.here hx rfl (hb hby d15_0) rfl rfl ?_
    show Steps p.tables e below (s₁.setTop (mkF m 1 #[rv r0, rv r0, .unset] [(.ref r0)])) _
    refine XS.aloadN X0.here hx rfl (hb hby d15_1) rfl rfl ?_
    show Steps p.tables e below (s₁.setTop (mkF m 2 #[rv r0, rv r0, .unset] [(.ref r0), (.ref r0)])) _
    refine Jvm.RoadKit.acmp (g := (mkF m 2 #[rv r0, rv r0, .unset] [(.ref r0), (.ref r0)])) X0 hx rfl rfl rfl (pc0 := 2) (pc' := 5) (same := true) rfl (hb hby d15_2) rfl (decide_eq_true rfl) (by decide) (by decide) ?_
    show Steps p.tables e below (s₁.setTop (mkF m 5 #[rv r0, rv r0, .unset] [])) _
    refine XS.iconst X0.here hx rfl (hb hby d15_5) ?_
    exact kt
  obtain ⟨fs, hr, hrun, hended, hW, hsame⟩ := X0.leave (v := some (.int (1 : Int32))) (fun h => by rw [Bd.returns] at h; cases h)
  refine ⟨_, _, pre1 _ ?_, hrun, hended, _, _, rfl, ?_, ⟨_, rfl⟩, hW, hsame.mono (by decide) (by decide)⟩
  · show Steps p.tables e below (s₁.setTop (mkF m 6 #[rv r0, rv r0, .unset] [(.int (1 : Int32))])) _
    exact retN X0 hx (t := .boolean) Bd.returns (by simp) (hb hby d15_6) hr
  · show Q15same Z r0 h0 n0 _ s₁.heap _
    rw [e0]
    exact ⟨rfl, N0, rfl⟩
theorem d10_0 : decode prog_25_method_5_code 0 = .ok (.aload_n 1, 1) := by decide +kernel
theorem d10_1 : decode prog_25_method_5_code 1 = .ok (.instanceof 8, 3) := by decide +kernel
theorem d10_4 : decode prog_25_method_5_code 4 = .ok (.ifCond .eq 48, 3) := by decide +kernel
theorem d10_52 : decode prog_25_method_5_code 52 = .ok (.iconst 0, 1) := by decide +kernel
theorem d10_53 : decode prog_25_method_5_code 53 = .ok (.ireturn, 1) := by decide +kernel
theorem ef_10null (m : MethodId) (x0 : Addr) : entryFrame m #[(.ref x0), .null] 3 = mkF m 0 #[.val (.ref x0), .val .null, .unset] [] := by first | (simp [entryFrame, mkF, argsToLocals, Value.category]; done) | rfl
def Q10null (Z : State) (r0 : Addr) (h0 : Heap) (n0 : Nat) (v : Option Value) (h : Heap) (L : List Loc) : Prop := v = some (.int 0) ∧ Fr n0 L ∧ h = h0
set_option maxRecDepth 65536 in
set_option maxHeartbeats 40000000 in
theorem rm10null (l : Launch) (Z : State) (a0 : Array Value) (hw : ∀ d ∈ tables_1, d.before a0 Z = true) (ws : List Jvm.Cond) (r0 : Addr) (h0 : Heap) (n0 : Nat) (Z0 : n0 ≤ h0.size) :
    MetFree l (⟨"com/example/fair_witness/fairwitness/verifier/DecodingFailure", "equals", "(Ljava/lang/Object;)Z"⟩ : MethodName) (head1 (Jvm.Cond.code (⟨"com/example/fair_witness/fairwitness/verifier/DecodingFailure", "equals", "(Ljava/lang/Object;)Z"⟩ : MethodName) prog_25_method_5_code 3 (some .boolean) :: ws) ({ frames := 0, cells := 0, slots := 0, locals := 0 } : Room)) (fun a U => a = #[(.ref r0), .null] ∧ Z.Warmed39 U.vm ∧ U.heap = h0) (fun _ _ _ _ _ => True) (fun _ U o U' => ∃ v L, o = .returned v ∧ Q10null Z r0 h0 n0 v U'.heap L ∧ FrameEnd U o U' L ({ frames := 0, cells := 0, slots := 0, locals := 0 } : Room).cells ({ frames := 0, cells := 0, slots := 0, locals := 0 } : Room).slots) := by
  refine MetFree.of_bodySF (plainFor_of_name pn13) hisR ?_
  intro p e s m args below meth c s₁ Bd hml0 hP hK
  obtain ⟨rfl, hZ, hh⟩ := hP
  have hx := Bd.exec
  have hby := Bd.bytes
  have hml : c.maxLocals = 3 := hml0
  have hown : s.vm.findClass "com/example/fair_witness/fairwitness/verifier/DecodingFailure" = some m.cls := findClass_of_methodNamed Bd.named
  have hnm := (name_of_methodNamed Bd.named Bd.method).1
  have X0 : Stand p l e ({ frames := 0, cells := 0, slots := 0, locals := 0 } : Room) s m #[(.ref r0), .null] below meth c s₁ [] 0 0 := Stand.of_body Bd
  have e0 : s₁.heap = h0 := by rw [← hh, Bd.state]; rfl
  have N0 := Fr.nil n0
  have pre0 : ∀ t, Steps p.tables e below (s₁.setTop (mkF m 0 #[rv r0, .val .null, .unset] [])) t → Steps p.tables e below (s₁.setTop (entryFrame m #[(.ref r0), .null] 3)) t := fun t k => castTop (ef_10null m r0) k
  have pre1 : ∀ t, Steps p.tables e below (s₁.setTop (mkF m 53 #[rv r0, .val .null, .unset] [(.int (0 : Int32))])) t → Steps p.tables e below (s₁.setTop (entryFrame m #[(.ref r0), .null] 3)) t := by
    intro t kt
    refine pre0 _ ?_
    show Steps p.tables e below (s₁.setTop (mkF m 0 #[rv r0, .val .null, .unset] [])) _
    refine XS.aloadN X0.here hx rfl (hb hby d10_0) rfl rfl ?_
    show Steps p.tables e below (s₁.setTop (mkF m 1 #[rv r0, .val .null, .unset] [.null])) _
    refine X0.instanceofNull hx (g := (mkF m 1 #[rv r0, .val .null, .unset] [.null])) rfl rfl (hb hby d10_1) _ ?_
    show Steps p.tables e below (s₁.setTop (mkF m 4 #[rv r0, .val .null, .unset] [(.int (0 : Int32))])) _
    refine XS.ifYes X0.here hx rfl (pc0 := 4) (pc' := 52) rfl (hb hby d10_4) rfl ((if0 _ _).trans (teq (by decide)).1) (by decide) (by decide) ?_
    show Steps p.tables e below (s₁.setTop (mkF m 52 #[rv r0, .val .null, .unset] [])) _
    refine XS.iconst X0.here hx rfl (hb hby d10_52) ?_
    exact kt
  obtain ⟨fs, hr, hrun, hended, hW, hsame⟩ := X0.leave (v := some (.int (0 : Int32))) (fun h => by rw [Bd.returns] at h; cases h)
  refine ⟨_, _, pre1 _ ?_, hrun, hended, _, _, rfl, ?_, ⟨_, rfl⟩, hW, hsame.mono (by decide) (by decide)⟩
  · show Steps p.tables e below (s₁.setTop (mkF m 53 #[rv r0, .val .null, .unset] [(.int (0 : Int32))])) _
    exact retN X0 hx (t := .boolean) Bd.returns (by simp) (hb hby d10_53) hr
  · show Q10null Z r0 h0 n0 _ s₁.heap _
    rw [e0]
    exact ⟨rfl, N0, rfl⟩

theorem ef_10str (m : MethodId) (x0 : Addr) (x1 : Addr) : entryFrame m #[(.ref x0), (.ref x1)] 3 = mkF m 0 #[.val (.ref x0), .val (.ref x1), .unset] [] := by first | (simp [entryFrame, mkF, argsToLocals, Value.category]; done) | rfl
def Q10str (Z : State) (r0 : Addr) (r1 : Addr) (h0 : Heap) (n0 : Nat) (v : Option Value) (h : Heap) (L : List Loc) : Prop := v = some (.int 0) ∧ Fr n0 L ∧ h = h0
set_option maxRecDepth 65536 in
set_option maxHeartbeats 40000000 in
theorem rm10str (l : Launch) (Z : State) (a0 : Array Value) (hw : ∀ d ∈ tables_1, d.before a0 Z = true) (ws : List Jvm.Cond) (r0 : Addr) (r1 : Addr) (h0 : Heap) (n0 : Nat) (Z0 : n0 ≤ h0.size) (E_r1 : Exa Z h0 r1 "java/lang/String") :
    MetFree l (⟨"com/example/fair_witness/fairwitness/verifier/DecodingFailure", "equals", "(Ljava/lang/Object;)Z"⟩ : MethodName) (head1 (Jvm.Cond.code (⟨"com/example/fair_witness/fairwitness/verifier/DecodingFailure", "equals", "(Ljava/lang/Object;)Z"⟩ : MethodName) prog_25_method_5_code 3 (some .boolean) :: ws) ({ frames := 0, cells := 0, slots := 0, locals := 0 } : Room)) (fun a U => a = #[(.ref r0), (.ref r1)] ∧ Z.Warmed39 U.vm ∧ U.heap = h0) (fun _ _ _ _ _ => True) (fun _ U o U' => ∃ v L, o = .returned v ∧ Q10str Z r0 r1 h0 n0 v U'.heap L ∧ FrameEnd U o U' L ({ frames := 0, cells := 0, slots := 0, locals := 0 } : Room).cells ({ frames := 0, cells := 0, slots := 0, locals := 0 } : Room).slots) := by
  refine MetFree.of_bodySF (plainFor_of_name pn13) hisR ?_
  intro p e s m args below meth c s₁ Bd hml0 hP hK
  obtain ⟨rfl, hZ, hh⟩ := hP
  have hx := Bd.exec
  have hby := Bd.bytes
  have hml : c.maxLocals = 3 := hml0
  have hown : s.vm.findClass "com/example/fair_witness/fairwitness/verifier/DecodingFailure" = some m.cls := findClass_of_methodNamed Bd.named
  have hnm := (name_of_methodNamed Bd.named Bd.method).1
  have X0 : Stand p l e ({ frames := 0, cells := 0, slots := 0, locals := 0 } : Room) s m #[(.ref r0), (.ref r1)] below meth c s₁ [] 0 0 := Stand.of_body Bd
  have e0 : s₁.heap = h0 := by rw [← hh, Bd.state]; rfl
  have N0 := Fr.nil n0
  have pre0 : ∀ t, Steps p.tables e below (s₁.setTop (mkF m 0 #[rv r0, rv r1, .unset] [])) t → Steps p.tables e below (s₁.setTop (entryFrame m #[(.ref r0), (.ref r1)] 3)) t := fun t k => castTop (ef_10str m r0 r1) k
  have pre1 : ∀ t, Steps p.tables e below (s₁.setTop (mkF m 1 #[rv r0, rv r1, .unset] [(.ref r1)])) t → Steps p.tables e below (s₁.setTop (entryFrame m #[(.ref r0), (.ref r1)] 3)) t := by
    intro t kt
    refine pre0 _ ?_
    show Steps p.tables e below (s₁.setTop (mkF m 0 #[rv r0, rv r1, .unset] [])) _
    refine XS.aloadN X0.here hx rfl (hb hby d10_0) rfl rfl ?_
    exact kt
  obtain ⟨T2, X2, e2, st2⟩ := instNo X0 hx hZ hown (hw _ (List.mem_of_getElem? (i := 74) rfl)) e0 E_r1 (own_notins (hw _ (List.mem_of_getElem? (i := 75) rfl)) (hw _ (List.mem_of_getElem? (i := 76) rfl)) (hw _ (List.mem_of_getElem? (i := 35) rfl)) (by decide) (by decide)) (g := (mkF m 1 #[rv r0, rv r1, .unset] [(.ref r1)])) rfl rfl (hb hby d10_1)
  have pre3 : ∀ t, Steps p.tables e below (T2.setTop (mkF m 53 #[rv r0, rv r1, .unset] [(.int (0 : Int32))])) t → Steps p.tables e below (s₁.setTop (entryFrame m #[(.ref r0), (.ref r1)] 3)) t := by
    intro t kt
    refine pre1 _ ?_
    show Steps p.tables e below (s₁.setTop (mkF m 1 #[rv r0, rv r1, .unset] [(.ref r1)])) _
    refine st2 _ ?_
    show Steps p.tables e below (T2.setTop (mkF m 4 #[rv r0, rv r1, .unset] [(.int (0 : Int32))])) _
    refine XS.ifYes X2.here hx rfl (pc0 := 4) (pc' := 52) rfl (hb hby d10_4) rfl ((if0 _ _).trans (teq (by decide)).1) (by decide) (by decide) ?_
    show Steps p.tables e below (T2.setTop (mkF m 52 #[rv r0, rv r1, .unset] [])) _
    refine XS.iconst X2.here hx rfl (hb hby d10_52) ?_
    exact kt
  obtain ⟨fs, hr, hrun, hended, hW, hsame⟩ := X2.leave (v := some (.int (0 : Int32))) (fun h => by rw [Bd.returns] at h; cases h)
  refine ⟨_, _, pre3 _ ?_, hrun, hended, _, _, rfl, ?_, ⟨_, rfl⟩, hW, hsame.mono (by decide) (by decide)⟩
  · show Steps p.tables e below (T2.setTop (mkF m 53 #[rv r0, rv r1, .unset] [(.int (0 : Int32))])) _
    exact retN X2 hx (t := .boolean) Bd.returns (by simp) (hb hby d10_53) hr
  · show Q10str Z r0 r1 h0 n0 _ T2.heap _
    rw [e2]
    exact ⟨rfl, N0, rfl⟩
theorem d10_7 : decode prog_25_method_5_code 7 = .ok (.aload_n 1, 1) := by decide +kernel
theorem d10_8 : decode prog_25_method_5_code 8 = .ok (.checkcast 8, 3) := by decide +kernel
theorem d10_11 : decode prog_25_method_5_code 11 = .ok (.astore_n 2, 1) := by decide +kernel
theorem d10_12 : decode prog_25_method_5_code 12 = .ok (.aload_n 0, 1) := by decide +kernel
theorem d10_13 : decode prog_25_method_5_code 13 = .ok (.getfield 7, 3) := by decide +kernel
theorem d10_16 : decode prog_25_method_5_code 16 = .ok (.aload_n 2, 1) := by decide +kernel
theorem d10_17 : decode prog_25_method_5_code 17 = .ok (.getfield 7, 3) := by decide +kernel
theorem d10_20 : decode prog_25_method_5_code 20 = .ok (.if_acmp .ne 32, 3) := by decide +kernel
theorem d10_23 : decode prog_25_method_5_code 23 = .ok (.aload_n 0, 1) := by decide +kernel
theorem d10_24 : decode prog_25_method_5_code 24 = .ok (.getfield 13, 3) := by decide +kernel
theorem d10_27 : decode prog_25_method_5_code 27 = .ok (.aload_n 2, 1) := by decide +kernel
theorem d10_28 : decode prog_25_method_5_code 28 = .ok (.getfield 13, 3) := by decide +kernel
theorem d10_31 : decode prog_25_method_5_code 31 = .ok (.if_icmp .ne 21, 3) := by decide +kernel
theorem d10_34 : decode prog_25_method_5_code 34 = .ok (.aload_n 0, 1) := by decide +kernel
theorem d10_35 : decode prog_25_method_5_code 35 = .ok (.getfield 17, 3) := by decide +kernel
theorem d10_38 : decode prog_25_method_5_code 38 = .ok (.aload_n 2, 1) := by decide +kernel
theorem d10_39 : decode prog_25_method_5_code 39 = .ok (.getfield 17, 3) := by decide +kernel
theorem pd15 : parseMethodDescriptor "(Ljava/lang/Object;)Z" = some ⟨[(.object "java/lang/Object")], some .boolean⟩ := by decide +kernel
theorem d10_42 : decode prog_25_method_5_code 42 = .ok (.invokevirtual 21, 3) := by decide +kernel
theorem d10_45 : decode prog_25_method_5_code 45 = .ok (.ifCond .eq 7, 3) := by decide +kernel
theorem d10_48 : decode prog_25_method_5_code 48 = .ok (.iconst 1, 1) := by decide +kernel
theorem d10_49 : decode prog_25_method_5_code 49 = .ok (.goto 4, 3) := by decide +kernel
theorem ef_10same (m : MethodId) (x0 : Addr) (x1 : Addr) : entryFrame m #[(.ref x0), (.ref x1)] 3 = mkF m 0 #[.val (.ref x0), .val (.ref x1), .unset] [] := by first | (simp [entryFrame, mkF, argsToLocals, Value.category]; done) | rfl
def Q10same (Z : State) (r0 : Addr) (w1 : Addr) (w2 : Int32) (w3 : Addr) (h0 : Heap) (n0 : Nat) (v : Option Value) (h : Heap) (L : List Loc) : Prop := v = some (.int 1) ∧ Fr n0 L ∧ h = h0
set_option maxRecDepth 65536 in
set_option maxHeartbeats 40000000 in
theorem rm10same (l : Launch) (Z : State) (a0 : Array Value) (hw : ∀ d ∈ tables_1, d.before a0 Z = true) (ws : List Jvm.Cond) (r0 : Addr) (w1 : Addr) (w2 : Int32) (w3 : Addr) (h0 : Heap) (n0 : Nat) (Z0 : n0 ≤ h0.size) (F_reason_r0 : Fld Z h0 r0 "com/example/fair_witness/fairwitness/verifier/DecodingFailure" "reason" "Lcom/example/fair_witness/fairwitness/verifier/Reason;" (.ref w1)) (F_certificateIndex_r0 : Fld Z h0 r0 "com/example/fair_witness/fairwitness/verifier/DecodingFailure" "certificateIndex" "I" (.int w2)) (F_detail_r0 : Fld Z h0 r0 "com/example/fair_witness/fairwitness/verifier/DecodingFailure" "detail" "Ljava/lang/String;" (.ref w3)) (E_r0 : Exa Z h0 r0 "com/example/fair_witness/fairwitness/verifier/DecodingFailure") (E_w3 : Exa Z h0 w3 "java/lang/String") :
    MetFree l (⟨"com/example/fair_witness/fairwitness/verifier/DecodingFailure", "equals", "(Ljava/lang/Object;)Z"⟩ : MethodName) (head1 (Jvm.Cond.code (⟨"com/example/fair_witness/fairwitness/verifier/DecodingFailure", "equals", "(Ljava/lang/Object;)Z"⟩ : MethodName) prog_25_method_5_code 3 (some .boolean) :: ws) ({ frames := 1, cells := 0, slots := 0, locals := 14 } : Room)) (fun a U => a = #[(.ref r0), (.ref r0)] ∧ Z.Warmed39 U.vm ∧ U.heap = h0) (fun _ _ _ _ _ => True) (fun _ U o U' => ∃ v L, o = .returned v ∧ Q10same Z r0 w1 w2 w3 h0 n0 v U'.heap L ∧ FrameEnd U o U' L ({ frames := 1, cells := 0, slots := 0, locals := 14 } : Room).cells ({ frames := 1, cells := 0, slots := 0, locals := 14 } : Room).slots) := by
  refine MetFree.of_bodySF (plainFor_of_name pn13) hisR ?_
  intro p e s m args below meth c s₁ Bd hml0 hP hK
  obtain ⟨rfl, hZ, hh⟩ := hP
  have hx := Bd.exec
  have hby := Bd.bytes
  have hml : c.maxLocals = 3 := hml0
  have hown : s.vm.findClass "com/example/fair_witness/fairwitness/verifier/DecodingFailure" = some m.cls := findClass_of_methodNamed Bd.named
  have hnm := (name_of_methodNamed Bd.named Bd.method).1
  have X0 : Stand p l e ({ frames := 1, cells := 0, slots := 0, locals := 14 } : Room) s m #[(.ref r0), (.ref r0)] below meth c s₁ [] 0 0 := Stand.of_body Bd
  have e0 : s₁.heap = h0 := by rw [← hh, Bd.state]; rfl
  have N0 := Fr.nil n0
  have pre0 : ∀ t, Steps p.tables e below (s₁.setTop (mkF m 0 #[rv r0, rv r0, .unset] [])) t → Steps p.tables e below (s₁.setTop (entryFrame m #[(.ref r0), (.ref r0)] 3)) t := fun t k => castTop (ef_10same m r0 r0) k
  have pre1 : ∀ t, Steps p.tables e below (s₁.setTop (mkF m 1 #[rv r0, rv r0, .unset] [(.ref r0)])) t → Steps p.tables e below (s₁.setTop (entryFrame m #[(.ref r0), (.ref r0)] 3)) t := by
    intro t kt
    refine pre0 _ ?_
    show Steps p.tables e below (s₁.setTop (mkF m 0 #[rv r0, rv r0, .unset] [])) _
    refine XS.aloadN X0.here hx rfl (hb hby d10_0) rfl rfl ?_
    exact kt
  obtain ⟨T2, X2, e2, st2⟩ := instY X0 hx hZ hown (hw _ (List.mem_of_getElem? (i := 74) rfl)) e0 (Ins.self E_r0) (g := (mkF m 1 #[rv r0, rv r0, .unset] [(.ref r0)])) rfl rfl (hb hby d10_1)
  have pre3 : ∀ t, Steps p.tables e below (T2.setTop (mkF m 8 #[rv r0, rv r0, .unset] [(.ref r0)])) t → Steps p.tables e below (s₁.setTop (entryFrame m #[(.ref r0), (.ref r0)] 3)) t := by
    intro t kt
    refine pre1 _ ?_
    show Steps p.tables e below (s₁.setTop (mkF m 1 #[rv r0, rv r0, .unset] [(.ref r0)])) _
    refine st2 _ ?_
    show Steps p.tables e below (T2.setTop (mkF m 4 #[rv r0, rv r0, .unset] [(.int (1 : Int32))])) _
    refine XS.ifNo X2.here hx rfl (hb hby d10_4) rfl ((if0 _ _).trans (feq (by decide)).1) ?_
    show Steps p.tables e below (T2.setTop (mkF m 7 #[rv r0, rv r0, .unset] [])) _
    refine XS.aloadN X2.here hx rfl (hb hby d10_7) rfl rfl ?_
    exact kt
  obtain ⟨T4, X4, e4, st4⟩ := castY X2 hx hZ hown (hw _ (List.mem_of_getElem? (i := 74) rfl)) e2 (Ins.self E_r0) (g := (mkF m 8 #[rv r0, rv r0, .unset] [(.ref r0)])) rfl rfl (hb hby d10_8)
  have pre5 : ∀ t, Steps p.tables e below (T4.setTop (mkF m 13 #[rv r0, rv r0, rv r0] [(.ref r0)])) t → Steps p.tables e below (s₁.setTop (entryFrame m #[(.ref r0), (.ref r0)] 3)) t := by
    intro t kt
    refine pre3 _ ?_
    show Steps p.tables e below (T2.setTop (mkF m 8 #[rv r0, rv r0, .unset] [(.ref r0)])) _
    refine st4 _ ?_
    show Steps p.tables e below (T4.setTop (mkF m 11 #[rv r0, rv r0, .unset] [(.ref r0)])) _
    refine XS.astoreN X4.here hx rfl (hb hby d10_11) rfl rfl (l' := #[rv r0, rv r0, rv r0]) rfl ?_
    show Steps p.tables e below (T4.setTop (mkF m 12 #[rv r0, rv r0, rv r0] [])) _
    refine XS.aloadN X4.here hx rfl (hb hby d10_12) rfl rfl ?_
    exact kt
  obtain ⟨T6, X6, e6, st6⟩ := getF X4 hx hZ hown (host := "") (Or.inl (hw _ (List.mem_of_getElem? (i := 47) rfl))) Via.refl e4 F_reason_r0 (g := (mkF m 13 #[rv r0, rv r0, rv r0] [(.ref r0)])) rfl rfl (hb hby d10_13)
  have pre7 : ∀ t, Steps p.tables e below (T6.setTop (mkF m 17 #[rv r0, rv r0, rv r0] [(.ref r0), (.ref w1)])) t → Steps p.tables e below (s₁.setTop (entryFrame m #[(.ref r0), (.ref r0)] 3)) t := by
    intro t kt
    refine pre5 _ ?_
    show Steps p.tables e below (T4.setTop (mkF m 13 #[rv r0, rv r0, rv r0] [(.ref r0)])) _
    refine st6 _ ?_
    show Steps p.tables e below (T6.setTop (mkF m 16 #[rv r0, rv r0, rv r0] [(.ref w1)])) _
    refine XS.aloadN X6.here hx rfl (hb hby d10_16) rfl rfl ?_
    exact kt
  obtain ⟨T8, X8, e8, st8⟩ := getF X6 hx hZ hown (host := "") (Or.inl (hw _ (List.mem_of_getElem? (i := 47) rfl))) Via.refl e6 F_reason_r0 (g := (mkF m 17 #[rv r0, rv r0, rv r0] [(.ref r0), (.ref w1)])) rfl rfl (hb hby d10_17)
  have pre9 : ∀ t, Steps p.tables e below (T8.setTop (mkF m 24 #[rv r0, rv r0, rv r0] [(.ref r0)])) t → Steps p.tables e below (s₁.setTop (entryFrame m #[(.ref r0), (.ref r0)] 3)) t := by
    intro t kt
    refine pre7 _ ?_
    show Steps p.tables e below (T6.setTop (mkF m 17 #[rv r0, rv r0, rv r0] [(.ref r0), (.ref w1)])) _
    refine st8 _ ?_
    show Steps p.tables e below (T8.setTop (mkF m 20 #[rv r0, rv r0, rv r0] [(.ref w1), (.ref w1)])) _
    refine Jvm.RoadKit.acmp (g := (mkF m 20 #[rv r0, rv r0, rv r0] [(.ref w1), (.ref w1)])) X8 hx rfl rfl rfl (pc0 := 20) (pc' := 23) (same := true) rfl (hb hby d10_20) rfl (decide_eq_true rfl) (by decide) (by decide) ?_
    show Steps p.tables e below (T8.setTop (mkF m 23 #[rv r0, rv r0, rv r0] [])) _
    refine XS.aloadN X8.here hx rfl (hb hby d10_23) rfl rfl ?_
    exact kt
  obtain ⟨T10, X10, e10, st10⟩ := getF X8 hx hZ hown (host := "") (Or.inl (hw _ (List.mem_of_getElem? (i := 49) rfl))) Via.refl e8 F_certificateIndex_r0 (g := (mkF m 24 #[rv r0, rv r0, rv r0] [(.ref r0)])) rfl rfl (hb hby d10_24)
  have pre11 : ∀ t, Steps p.tables e below (T10.setTop (mkF m 28 #[rv r0, rv r0, rv r0] [(.ref r0), (.int w2)])) t → Steps p.tables e below (s₁.setTop (entryFrame m #[(.ref r0), (.ref r0)] 3)) t := by
    intro t kt
    refine pre9 _ ?_
    show Steps p.tables e below (T8.setTop (mkF m 24 #[rv r0, rv r0, rv r0] [(.ref r0)])) _
    refine st10 _ ?_
    show Steps p.tables e below (T10.setTop (mkF m 27 #[rv r0, rv r0, rv r0] [(.int w2)])) _
    refine XS.aloadN X10.here hx rfl (hb hby d10_27) rfl rfl ?_
    exact kt
  obtain ⟨T12, X12, e12, st12⟩ := getF X10 hx hZ hown (host := "") (Or.inl (hw _ (List.mem_of_getElem? (i := 49) rfl))) Via.refl e10 F_certificateIndex_r0 (g := (mkF m 28 #[rv r0, rv r0, rv r0] [(.ref r0), (.int w2)])) rfl rfl (hb hby d10_28)
  have pre13 : ∀ t, Steps p.tables e below (T12.setTop (mkF m 35 #[rv r0, rv r0, rv r0] [(.ref r0)])) t → Steps p.tables e below (s₁.setTop (entryFrame m #[(.ref r0), (.ref r0)] 3)) t := by
    intro t kt
    refine pre11 _ ?_
    show Steps p.tables e below (T10.setTop (mkF m 28 #[rv r0, rv r0, rv r0] [(.ref r0), (.int w2)])) _
    refine st12 _ ?_
    show Steps p.tables e below (T12.setTop (mkF m 31 #[rv r0, rv r0, rv r0] [(.int w2), (.int w2)])) _
    refine XS.icmpNo X12.here hx rfl (hb hby d10_31) rfl (teq rfl).2 ?_
    show Steps p.tables e below (T12.setTop (mkF m 34 #[rv r0, rv r0, rv r0] [])) _
    refine XS.aloadN X12.here hx rfl (hb hby d10_34) rfl rfl ?_
    exact kt
  obtain ⟨T14, X14, e14, st14⟩ := getF X12 hx hZ hown (host := "") (Or.inl (hw _ (List.mem_of_getElem? (i := 51) rfl))) Via.refl e12 F_detail_r0 (g := (mkF m 35 #[rv r0, rv r0, rv r0] [(.ref r0)])) rfl rfl (hb hby d10_35)
  have pre15 : ∀ t, Steps p.tables e below (T14.setTop (mkF m 39 #[rv r0, rv r0, rv r0] [(.ref r0), (.ref w3)])) t → Steps p.tables e below (s₁.setTop (entryFrame m #[(.ref r0), (.ref r0)] 3)) t := by
    intro t kt
    refine pre13 _ ?_
    show Steps p.tables e below (T12.setTop (mkF m 35 #[rv r0, rv r0, rv r0] [(.ref r0)])) _
    refine st14 _ ?_
    show Steps p.tables e below (T14.setTop (mkF m 38 #[rv r0, rv r0, rv r0] [(.ref w3)])) _
    refine XS.aloadN X14.here hx rfl (hb hby d10_38) rfl rfl ?_
    exact kt
  obtain ⟨T16, X16, e16, st16⟩ := getF X14 hx hZ hown (host := "") (Or.inl (hw _ (List.mem_of_getElem? (i := 51) rfl))) Via.refl e14 F_detail_r0 (g := (mkF m 39 #[rv r0, rv r0, rv r0] [(.ref r0), (.ref w3)])) rfl rfl (hb hby d10_39)
  have pre17 : ∀ t, Steps p.tables e below (T16.setTop (mkF m 42 #[rv r0, rv r0, rv r0] [(.ref w3), (.ref w3)])) t → Steps p.tables e below (s₁.setTop (entryFrame m #[(.ref r0), (.ref r0)] 3)) t := by
    intro t kt
    refine pre15 _ ?_
    show Steps p.tables e below (T14.setTop (mkF m 39 #[rv r0, rv r0, rv r0] [(.ref r0), (.ref w3)])) _
    refine st16 _ ?_
    exact kt
  obtain ⟨cq18, kq18, q18a, q18b, q18c⟩ := isOf hZ e16 E_w3
  obtain ⟨_, _, ⟨T18, L18, k18, n18⟩, -, X18, ⟨Lc18, hQ18, l18, y18, z18⟩, st18⟩ := X16.virtualBack hx (y := (⟨"java/lang/String", "equals", "(Ljava/lang/Object;)Z"⟩ : MethodName)) (z := (⟨"java/lang/String", "equals", "(Ljava/lang/Object;)Z"⟩ : MethodName)) hown (mvT hZ (hw _ (List.mem_of_getElem? (i := 78) rfl))) (mvT hZ (hw _ (List.mem_of_getElem? (i := 79) rfl))) (notFace_of_selects (args := #[]) (mvT hZ (hw _ (List.mem_of_getElem? (i := 81) rfl)))) (mvT hZ (hw _ (List.mem_of_getElem? (i := 81) rfl))) (mvT hZ (hw _ (List.mem_of_getElem? (i := 80) rfl))) (by decide) (backOf (W := 0) (rm15same l Z a0 hw [] w3 h0 n0 (Nat.le_trans Z0 (Keep.refl h0 []).1)) hZ (hw _ (List.mem_of_getElem? (i := 82) rfl)) (hw _ (List.mem_of_getElem? (i := 6) rfl)) (by decide) (by decide)) q18a q18c (g := (mkF m 42 #[rv r0, rv r0, rv r0] [(.ref w3), (.ref w3)])) rfl (by rw [hml]; rfl) (Steps.refl _) (argsL := [(.ref w3)]) (rest := []) (lenOf pd15 rfl) rfl (by show 2 * 0 + _ ≤ _; exact Nat.le_of_eq rfl) (hb hby d10_42) (fun _ _ => ⟨rfl, e16, (by decide : 0 + 0 ≤ _), (by decide : 0 + 0 ≤ _)⟩)
  dsimp only [Pt.U, Pt.locs, Pt.cells, Pt.slots] at X18 l18 y18 z18 st18 hQ18
  subst l18 y18 z18
  obtain ⟨rfl, N18q, hh18⟩ := hQ18
  have N18 := Fr.app N0 N18q
  have pre19 : ∀ t, Steps p.tables e below (T18.setTop (mkF m 53 #[rv r0, rv r0, rv r0] [(.int (1 : Int32))])) t → Steps p.tables e below (s₁.setTop (entryFrame m #[(.ref r0), (.ref r0)] 3)) t := by
    intro t kt
    refine pre17 _ ?_
    show Steps p.tables e below (T16.setTop (mkF m 42 #[rv r0, rv r0, rv r0] [(.ref w3), (.ref w3)])) _
    refine st18.trans ?_
    show Steps p.tables e below (T18.setTop (mkF m 45 #[rv r0, rv r0, rv r0] [(.int (1 : Int32))])) _
    refine XS.ifNo X18.here hx rfl (hb hby d10_45) rfl ((if0 _ _).trans (feq (by decide)).1) ?_
    show Steps p.tables e below (T18.setTop (mkF m 48 #[rv r0, rv r0, rv r0] [])) _
    refine XS.iconst X18.here hx rfl (hb hby d10_48) ?_
    show Steps p.tables e below (T18.setTop (mkF m 49 #[rv r0, rv r0, rv r0] [(.int (1 : Int32))])) _
    refine XS.goto X18.here hx rfl (pc0 := 49) (pc' := 53) rfl (hb hby d10_49) (by decide) (by decide) ?_
    exact kt
  obtain ⟨fs, hr, hrun, hended, hW, hsame⟩ := X18.leave (v := some (.int (1 : Int32))) (fun h => by rw [Bd.returns] at h; cases h)
  refine ⟨_, _, pre19 _ ?_, hrun, hended, _, _, rfl, ?_, ⟨_, rfl⟩, hW, hsame.mono (by decide) (by decide)⟩
  · show Steps p.tables e below (T18.setTop (mkF m 53 #[rv r0, rv r0, rv r0] [(.int (1 : Int32))])) _
    exact retN X18 hx (t := .boolean) Bd.returns (by simp) (hb hby d10_53) hr
  · show Q10same Z r0 w1 w2 w3 h0 n0 _ T18.heap _
    rw [hh18]
    exact ⟨rfl, N18, rfl⟩
def own_de11 (w1 : Addr) (w2 : Int32) (u1 : Addr) (u2 : Int32) (s0 : Int32) (t0 : Int32) : Int32 := (if w1 = u1 then (if w2 = u2 then (if (own_se11 s0 t0) = (0 : Int32) then (0 : Int32) else (1 : Int32)) else (0 : Int32)) else (0 : Int32))

theorem ef_10v11 (m : MethodId) (x0 : Addr) (x1 : Addr) : entryFrame m #[(.ref x0), (.ref x1)] 3 = mkF m 0 #[.val (.ref x0), .val (.ref x1), .unset] [] := by first | (simp [entryFrame, mkF, argsToLocals, Value.category]; done) | rfl
def Q10v11 (Z : State) (r0 : Addr) (r1 : Addr) (w1 : Addr) (w2 : Int32) (w3 : Addr) (u1 : Addr) (u2 : Int32) (u3 : Addr) (y0 : Addr) (y1 : Addr) (k1 : ClassId) (k2 : ClassId) (s0 : Int32) (t0 : Int32) (cs : Int32) (h0 : Heap) (n0 : Nat) (v : Option Value) (h : Heap) (L : List Loc) : Prop := v = some (.int (own_de11 w1 w2 u1 u2 s0 t0)) ∧ Fr n0 L ∧ h = h0
set_option maxRecDepth 65536 in
set_option maxHeartbeats 40000000 in
theorem rm10v11 (l : Launch) (Z : State) (a0 : Array Value) (hw : ∀ d ∈ tables_1, d.before a0 Z = true) (ws : List Jvm.Cond) (r0 : Addr) (r1 : Addr) (w1 : Addr) (w2 : Int32) (w3 : Addr) (u1 : Addr) (u2 : Int32) (u3 : Addr) (y0 : Addr) (y1 : Addr) (k1 : ClassId) (k2 : ClassId) (s0 : Int32) (t0 : Int32) (cs : Int32) (h0 : Heap) (n0 : Nat) (Z0 : n0 ≤ h0.size) (O0 : Old Z n0 h0) (S_cs : Sta Z Z.heap "java/lang/String" "COMPACT_STRINGS" "Z" (.int cs)) (hcs : ¬ (cs = (0 : Int32))) (F_reason_r0 : Fld Z h0 r0 "com/example/fair_witness/fairwitness/verifier/DecodingFailure" "reason" "Lcom/example/fair_witness/fairwitness/verifier/Reason;" (.ref w1)) (F_certificateIndex_r0 : Fld Z h0 r0 "com/example/fair_witness/fairwitness/verifier/DecodingFailure" "certificateIndex" "I" (.int w2)) (F_detail_r0 : Fld Z h0 r0 "com/example/fair_witness/fairwitness/verifier/DecodingFailure" "detail" "Ljava/lang/String;" (.ref w3)) (E_r0 : Exa Z h0 r0 "com/example/fair_witness/fairwitness/verifier/DecodingFailure") (F_reason_r1 : Fld Z h0 r1 "com/example/fair_witness/fairwitness/verifier/DecodingFailure" "reason" "Lcom/example/fair_witness/fairwitness/verifier/Reason;" (.ref u1)) (F_certificateIndex_r1 : Fld Z h0 r1 "com/example/fair_witness/fairwitness/verifier/DecodingFailure" "certificateIndex" "I" (.int u2)) (F_detail_r1 : Fld Z h0 r1 "com/example/fair_witness/fairwitness/verifier/DecodingFailure" "detail" "Ljava/lang/String;" (.ref u3)) (E_r1 : Exa Z h0 r1 "com/example/fair_witness/fairwitness/verifier/DecodingFailure") (F_value_w3 : Fld Z h0 w3 "java/lang/String" "value" "[B" (.ref y0)) (F_coder_w3 : Fld Z h0 w3 "java/lang/String" "coder" "B" (.int (0 : Int32))) (E_w3 : Exa Z h0 w3 "java/lang/String") (V_y0 : Arv Z h0 y0 k1 .byte (1 : Int32) [(.int s0)] (.int (0 : Int32))) (F_value_u3 : Fld Z h0 u3 "java/lang/String" "value" "[B" (.ref y1)) (F_coder_u3 : Fld Z h0 u3 "java/lang/String" "coder" "B" (.int (0 : Int32))) (E_u3 : Exa Z h0 u3 "java/lang/String") (V_y1 : Arv Z h0 y1 k2 .byte (1 : Int32) [(.int t0)] (.int (0 : Int32))) (hne : w3 ≠ u3) :
    MetFree l (⟨"com/example/fair_witness/fairwitness/verifier/DecodingFailure", "equals", "(Ljava/lang/Object;)Z"⟩ : MethodName) (head1 (Jvm.Cond.code (⟨"com/example/fair_witness/fairwitness/verifier/DecodingFailure", "equals", "(Ljava/lang/Object;)Z"⟩ : MethodName) prog_25_method_5_code 3 (some .boolean) :: ws) ({ frames := 2, cells := 0, slots := 0, locals := 28 } : Room)) (fun a U => a = #[(.ref r0), (.ref r1)] ∧ Z.Warmed39 U.vm ∧ U.heap = h0) (fun _ _ _ _ _ => True) (fun _ U o U' => ∃ v L, o = .returned v ∧ Q10v11 Z r0 r1 w1 w2 w3 u1 u2 u3 y0 y1 k1 k2 s0 t0 cs h0 n0 v U'.heap L ∧ FrameEnd U o U' L ({ frames := 2, cells := 0, slots := 0, locals := 28 } : Room).cells ({ frames := 2, cells := 0, slots := 0, locals := 28 } : Room).slots) := by
  refine MetFree.of_bodySF (plainFor_of_name pn13) hisR ?_
  intro p e s m args below meth c s₁ Bd hml0 hP hK
  obtain ⟨rfl, hZ, hh⟩ := hP
  have hx := Bd.exec
  have hby := Bd.bytes
  have hml : c.maxLocals = 3 := hml0
  have hown : s.vm.findClass "com/example/fair_witness/fairwitness/verifier/DecodingFailure" = some m.cls := findClass_of_methodNamed Bd.named
  have hnm := (name_of_methodNamed Bd.named Bd.method).1
  have X0 : Stand p l e ({ frames := 2, cells := 0, slots := 0, locals := 28 } : Room) s m #[(.ref r0), (.ref r1)] below meth c s₁ [] 0 0 := Stand.of_body Bd
  have e0 : s₁.heap = h0 := by rw [← hh, Bd.state]; rfl
  have N0 := Fr.nil n0
  have pre0 : ∀ t, Steps p.tables e below (s₁.setTop (mkF m 0 #[rv r0, rv r1, .unset] [])) t → Steps p.tables e below (s₁.setTop (entryFrame m #[(.ref r0), (.ref r1)] 3)) t := fun t k => castTop (ef_10v11 m r0 r1) k
  have pre1 : ∀ t, Steps p.tables e below (s₁.setTop (mkF m 1 #[rv r0, rv r1, .unset] [(.ref r1)])) t → Steps p.tables e below (s₁.setTop (entryFrame m #[(.ref r0), (.ref r1)] 3)) t := by
    intro t kt
    refine pre0 _ ?_
    show Steps p.tables e below (s₁.setTop (mkF m 0 #[rv r0, rv r1, .unset] [])) _
    refine XS.aloadN X0.here hx rfl (hb hby d10_0) rfl rfl ?_
    exact kt
  obtain ⟨T2, X2, e2, st2⟩ := instY X0 hx hZ hown (hw _ (List.mem_of_getElem? (i := 74) rfl)) e0 (Ins.self E_r1) (g := (mkF m 1 #[rv r0, rv r1, .unset] [(.ref r1)])) rfl rfl (hb hby d10_1)
  have pre3 : ∀ t, Steps p.tables e below (T2.setTop (mkF m 8 #[rv r0, rv r1, .unset] [(.ref r1)])) t → Steps p.tables e below (s₁.setTop (entryFrame m #[(.ref r0), (.ref r1)] 3)) t := by
    intro t kt
    refine pre1 _ ?_
    show Steps p.tables e below (s₁.setTop (mkF m 1 #[rv r0, rv r1, .unset] [(.ref r1)])) _
    refine st2 _ ?_
    show Steps p.tables e below (T2.setTop (mkF m 4 #[rv r0, rv r1, .unset] [(.int (1 : Int32))])) _
    refine XS.ifNo X2.here hx rfl (hb hby d10_4) rfl ((if0 _ _).trans (feq (by decide)).1) ?_
    show Steps p.tables e below (T2.setTop (mkF m 7 #[rv r0, rv r1, .unset] [])) _
    refine XS.aloadN X2.here hx rfl (hb hby d10_7) rfl rfl ?_
    exact kt
  obtain ⟨T4, X4, e4, st4⟩ := castY X2 hx hZ hown (hw _ (List.mem_of_getElem? (i := 74) rfl)) e2 (Ins.self E_r1) (g := (mkF m 8 #[rv r0, rv r1, .unset] [(.ref r1)])) rfl rfl (hb hby d10_8)
  have pre5 : ∀ t, Steps p.tables e below (T4.setTop (mkF m 13 #[rv r0, rv r1, rv r1] [(.ref r0)])) t → Steps p.tables e below (s₁.setTop (entryFrame m #[(.ref r0), (.ref r1)] 3)) t := by
    intro t kt
    refine pre3 _ ?_
    show Steps p.tables e below (T2.setTop (mkF m 8 #[rv r0, rv r1, .unset] [(.ref r1)])) _
    refine st4 _ ?_
    show Steps p.tables e below (T4.setTop (mkF m 11 #[rv r0, rv r1, .unset] [(.ref r1)])) _
    refine XS.astoreN X4.here hx rfl (hb hby d10_11) rfl rfl (l' := #[rv r0, rv r1, rv r1]) rfl ?_
    show Steps p.tables e below (T4.setTop (mkF m 12 #[rv r0, rv r1, rv r1] [])) _
    refine XS.aloadN X4.here hx rfl (hb hby d10_12) rfl rfl ?_
    exact kt
  obtain ⟨T6, X6, e6, st6⟩ := getF X4 hx hZ hown (host := "") (Or.inl (hw _ (List.mem_of_getElem? (i := 47) rfl))) Via.refl e4 F_reason_r0 (g := (mkF m 13 #[rv r0, rv r1, rv r1] [(.ref r0)])) rfl rfl (hb hby d10_13)
  have pre7 : ∀ t, Steps p.tables e below (T6.setTop (mkF m 17 #[rv r0, rv r1, rv r1] [(.ref r1), (.ref w1)])) t → Steps p.tables e below (s₁.setTop (entryFrame m #[(.ref r0), (.ref r1)] 3)) t := by
    intro t kt
    refine pre5 _ ?_
    show Steps p.tables e below (T4.setTop (mkF m 13 #[rv r0, rv r1, rv r1] [(.ref r0)])) _
    refine st6 _ ?_
    show Steps p.tables e below (T6.setTop (mkF m 16 #[rv r0, rv r1, rv r1] [(.ref w1)])) _
    refine XS.aloadN X6.here hx rfl (hb hby d10_16) rfl rfl ?_
    exact kt
  obtain ⟨T8, X8, e8, st8⟩ := getF X6 hx hZ hown (host := "") (Or.inl (hw _ (List.mem_of_getElem? (i := 47) rfl))) Via.refl e6 F_reason_r1 (g := (mkF m 17 #[rv r0, rv r1, rv r1] [(.ref r1), (.ref w1)])) rfl rfl (hb hby d10_17)
  have pre9 : ∀ t, Steps p.tables e below (T8.setTop (mkF m 20 #[rv r0, rv r1, rv r1] [(.ref u1), (.ref w1)])) t → Steps p.tables e below (s₁.setTop (entryFrame m #[(.ref r0), (.ref r1)] 3)) t := by
    intro t kt
    refine pre7 _ ?_
    show Steps p.tables e below (T6.setTop (mkF m 17 #[rv r0, rv r1, rv r1] [(.ref r1), (.ref w1)])) _
    refine st8 _ ?_
    exact kt
  by_cases ha20 : w1 = u1
  · have pre10 : ∀ t, Steps p.tables e below (T8.setTop (mkF m 24 #[rv r0, rv r1, rv r1] [(.ref r0)])) t → Steps p.tables e below (s₁.setTop (entryFrame m #[(.ref r0), (.ref r1)] 3)) t := by
      intro t kt
      refine pre9 _ ?_
      show Steps p.tables e below (T8.setTop (mkF m 20 #[rv r0, rv r1, rv r1] [(.ref u1), (.ref w1)])) _
      refine Jvm.RoadKit.acmp (g := (mkF m 20 #[rv r0, rv r1, rv r1] [(.ref u1), (.ref w1)])) X8 hx rfl rfl rfl (pc0 := 20) (pc' := 23) (same := true) rfl (hb hby d10_20) rfl (decide_eq_true (congrArg Value.ref ha20)) (by decide) (by decide) ?_
      show Steps p.tables e below (T8.setTop (mkF m 23 #[rv r0, rv r1, rv r1] [])) _
      refine XS.aloadN X8.here hx rfl (hb hby d10_23) rfl rfl ?_
      exact kt
    obtain ⟨T11, X11, e11, st11⟩ := getF X8 hx hZ hown (host := "") (Or.inl (hw _ (List.mem_of_getElem? (i := 49) rfl))) Via.refl e8 F_certificateIndex_r0 (g := (mkF m 24 #[rv r0, rv r1, rv r1] [(.ref r0)])) rfl rfl (hb hby d10_24)
    have pre12 : ∀ t, Steps p.tables e below (T11.setTop (mkF m 28 #[rv r0, rv r1, rv r1] [(.ref r1), (.int w2)])) t → Steps p.tables e below (s₁.setTop (entryFrame m #[(.ref r0), (.ref r1)] 3)) t := by
      intro t kt
      refine pre10 _ ?_
      show Steps p.tables e below (T8.setTop (mkF m 24 #[rv r0, rv r1, rv r1] [(.ref r0)])) _
      refine st11 _ ?_
      show Steps p.tables e below (T11.setTop (mkF m 27 #[rv r0, rv r1, rv r1] [(.int w2)])) _
      refine XS.aloadN X11.here hx rfl (hb hby d10_27) rfl rfl ?_
      exact kt
    obtain ⟨T13, X13, e13, st13⟩ := getF X11 hx hZ hown (host := "") (Or.inl (hw _ (List.mem_of_getElem? (i := 49) rfl))) Via.refl e11 F_certificateIndex_r1 (g := (mkF m 28 #[rv r0, rv r1, rv r1] [(.ref r1), (.int w2)])) rfl rfl (hb hby d10_28)
    have pre14 : ∀ t, Steps p.tables e below (T13.setTop (mkF m 31 #[rv r0, rv r1, rv r1] [(.int u2), (.int w2)])) t → Steps p.tables e below (s₁.setTop (entryFrame m #[(.ref r0), (.ref r1)] 3)) t := by
      intro t kt
      refine pre12 _ ?_
      show Steps p.tables e below (T11.setTop (mkF m 28 #[rv r0, rv r1, rv r1] [(.ref r1), (.int w2)])) _
      refine st13 _ ?_
      exact kt
    by_cases hc31 : w2 = u2
    · have pre15 : ∀ t, Steps p.tables e below (T13.setTop (mkF m 35 #[rv r0, rv r1, rv r1] [(.ref r0)])) t → Steps p.tables e below (s₁.setTop (entryFrame m #[(.ref r0), (.ref r1)] 3)) t := by
        intro t kt
        refine pre14 _ ?_
        show Steps p.tables e below (T13.setTop (mkF m 31 #[rv r0, rv r1, rv r1] [(.int u2), (.int w2)])) _
        refine XS.icmpNo X13.here hx rfl (hb hby d10_31) rfl (teq hc31).2 ?_
        show Steps p.tables e below (T13.setTop (mkF m 34 #[rv r0, rv r1, rv r1] [])) _
        refine XS.aloadN X13.here hx rfl (hb hby d10_34) rfl rfl ?_
        exact kt
      obtain ⟨T16, X16, e16, st16⟩ := getF X13 hx hZ hown (host := "") (Or.inl (hw _ (List.mem_of_getElem? (i := 51) rfl))) Via.refl e13 F_detail_r0 (g := (mkF m 35 #[rv r0, rv r1, rv r1] [(.ref r0)])) rfl rfl (hb hby d10_35)
      have pre17 : ∀ t, Steps p.tables e below (T16.setTop (mkF m 39 #[rv r0, rv r1, rv r1] [(.ref r1), (.ref w3)])) t → Steps p.tables e below (s₁.setTop (entryFrame m #[(.ref r0), (.ref r1)] 3)) t := by
        intro t kt
        refine pre15 _ ?_
        show Steps p.tables e below (T13.setTop (mkF m 35 #[rv r0, rv r1, rv r1] [(.ref r0)])) _
        refine st16 _ ?_
        show Steps p.tables e below (T16.setTop (mkF m 38 #[rv r0, rv r1, rv r1] [(.ref w3)])) _
        refine XS.aloadN X16.here hx rfl (hb hby d10_38) rfl rfl ?_
        exact kt
      obtain ⟨T18, X18, e18, st18⟩ := getF X16 hx hZ hown (host := "") (Or.inl (hw _ (List.mem_of_getElem? (i := 51) rfl))) Via.refl e16 F_detail_r1 (g := (mkF m 39 #[rv r0, rv r1, rv r1] [(.ref r1), (.ref w3)])) rfl rfl (hb hby d10_39)
      have pre19 : ∀ t, Steps p.tables e below (T18.setTop (mkF m 42 #[rv r0, rv r1, rv r1] [(.ref u3), (.ref w3)])) t → Steps p.tables e below (s₁.setTop (entryFrame m #[(.ref r0), (.ref r1)] 3)) t := by
        intro t kt
        refine pre17 _ ?_
        show Steps p.tables e below (T16.setTop (mkF m 39 #[rv r0, rv r1, rv r1] [(.ref r1), (.ref w3)])) _
        refine st18 _ ?_
        exact kt
      obtain ⟨cq20, kq20, q20a, q20b, q20c⟩ := isOf hZ e18 E_w3
      obtain ⟨_, _, ⟨T20, L20, k20, n20⟩, -, X20, ⟨Lc20, hQ20, l20, y20, z20⟩, st20⟩ := X18.virtualBack hx (y := (⟨"java/lang/String", "equals", "(Ljava/lang/Object;)Z"⟩ : MethodName)) (z := (⟨"java/lang/String", "equals", "(Ljava/lang/Object;)Z"⟩ : MethodName)) hown (mvT hZ (hw _ (List.mem_of_getElem? (i := 78) rfl))) (mvT hZ (hw _ (List.mem_of_getElem? (i := 79) rfl))) (notFace_of_selects (args := #[]) (mvT hZ (hw _ (List.mem_of_getElem? (i := 81) rfl)))) (mvT hZ (hw _ (List.mem_of_getElem? (i := 81) rfl))) (mvT hZ (hw _ (List.mem_of_getElem? (i := 80) rfl))) (by decide) (backOf (W := 0) (rm15v11 l Z a0 hw [] w3 u3 y0 y1 k1 k2 s0 t0 cs h0 n0 (Nat.le_trans Z0 (Keep.refl h0 []).1) (O0.keep (Keep.refl h0 []) all0) S_cs hcs F_value_w3 F_coder_w3 E_w3 V_y0 F_value_u3 F_coder_u3 E_u3 V_y1 hne) hZ (hw _ (List.mem_of_getElem? (i := 82) rfl)) (hw _ (List.mem_of_getElem? (i := 6) rfl)) (by decide) (by decide)) q20a q20c (g := (mkF m 42 #[rv r0, rv r1, rv r1] [(.ref u3), (.ref w3)])) rfl (by rw [hml]; rfl) (Steps.refl _) (argsL := [(.ref u3)]) (rest := []) (lenOf pd15 rfl) rfl (by show 2 * 0 + _ ≤ _; exact Nat.le_of_eq rfl) (hb hby d10_42) (fun _ _ => ⟨rfl, e18, (by decide : 0 + 0 ≤ _), (by decide : 0 + 0 ≤ _)⟩)
      dsimp only [Pt.U, Pt.locs, Pt.cells, Pt.slots] at X20 l20 y20 z20 st20 hQ20
      subst l20 y20 z20
      obtain ⟨rfl, N20q, hh20⟩ := hQ20
      have N20 := Fr.app N0 N20q
      have pre21 : ∀ t, Steps p.tables e below (T20.setTop (mkF m 45 #[rv r0, rv r1, rv r1] [(.int (own_se11 s0 t0))])) t → Steps p.tables e below (s₁.setTop (entryFrame m #[(.ref r0), (.ref r1)] 3)) t := by
        intro t kt
        refine pre19 _ ?_
        show Steps p.tables e below (T18.setTop (mkF m 42 #[rv r0, rv r1, rv r1] [(.ref u3), (.ref w3)])) _
        refine st20.trans ?_
        exact kt
      by_cases hc45 : (own_se11 s0 t0) = (0 : Int32)
      · have pre22 : ∀ t, Steps p.tables e below (T20.setTop (mkF m 53 #[rv r0, rv r1, rv r1] [(.int (0 : Int32))])) t → Steps p.tables e below (s₁.setTop (entryFrame m #[(.ref r0), (.ref r1)] 3)) t := by
          intro t kt
          refine pre21 _ ?_
          show Steps p.tables e below (T20.setTop (mkF m 45 #[rv r0, rv r1, rv r1] [(.int (own_se11 s0 t0))])) _
          refine XS.ifYes X20.here hx rfl (pc0 := 45) (pc' := 52) rfl (hb hby d10_45) rfl ((if0 _ _).trans (teq hc45).1) (by decide) (by decide) ?_
          show Steps p.tables e below (T20.setTop (mkF m 52 #[rv r0, rv r1, rv r1] [])) _
          refine XS.iconst X20.here hx rfl (hb hby d10_52) ?_
          exact kt
        obtain ⟨fs, hr, hrun, hended, hW, hsame⟩ := X20.leave (v := some (.int (0 : Int32))) (fun h => by rw [Bd.returns] at h; cases h)
        refine ⟨_, _, pre22 _ ?_, hrun, hended, _, _, rfl, ?_, ⟨_, rfl⟩, hW, hsame.mono (by decide) (by decide)⟩
        · show Steps p.tables e below (T20.setTop (mkF m 53 #[rv r0, rv r1, rv r1] [(.int (0 : Int32))])) _
          exact retN X20 hx (t := .boolean) Bd.returns (by simp) (hb hby d10_53) hr
        · show Q10v11 Z r0 r1 w1 w2 w3 u1 u2 u3 y0 y1 k1 k2 s0 t0 cs h0 n0 _ T20.heap _
          rw [hh20]
          exact ⟨congrArg (fun z => some (Value.int z)) ((if_pos ha20).trans ((if_pos hc31).trans ((if_pos hc45).trans rfl))).symm, N20, rfl⟩
      · have pre23 : ∀ t, Steps p.tables e below (T20.setTop (mkF m 53 #[rv r0, rv r1, rv r1] [(.int (1 : Int32))])) t → Steps p.tables e below (s₁.setTop (entryFrame m #[(.ref r0), (.ref r1)] 3)) t := by
          intro t kt
          refine pre21 _ ?_
          show Steps p.tables e below (T20.setTop (mkF m 45 #[rv r0, rv r1, rv r1] [(.int (own_se11 s0 t0))])) _
          refine XS.ifNo X20.here hx rfl (hb hby d10_45) rfl ((if0 _ _).trans (feq hc45).1) ?_
          show Steps p.tables e below (T20.setTop (mkF m 48 #[rv r0, rv r1, rv r1] [])) _
          refine XS.iconst X20.here hx rfl (hb hby d10_48) ?_
          show Steps p.tables e below (T20.setTop (mkF m 49 #[rv r0, rv r1, rv r1] [(.int (1 : Int32))])) _
          refine XS.goto X20.here hx rfl (pc0 := 49) (pc' := 53) rfl (hb hby d10_49) (by decide) (by decide) ?_
          exact kt
        obtain ⟨fs, hr, hrun, hended, hW, hsame⟩ := X20.leave (v := some (.int (1 : Int32))) (fun h => by rw [Bd.returns] at h; cases h)
        refine ⟨_, _, pre23 _ ?_, hrun, hended, _, _, rfl, ?_, ⟨_, rfl⟩, hW, hsame.mono (by decide) (by decide)⟩
        · show Steps p.tables e below (T20.setTop (mkF m 53 #[rv r0, rv r1, rv r1] [(.int (1 : Int32))])) _
          exact retN X20 hx (t := .boolean) Bd.returns (by simp) (hb hby d10_53) hr
        · show Q10v11 Z r0 r1 w1 w2 w3 u1 u2 u3 y0 y1 k1 k2 s0 t0 cs h0 n0 _ T20.heap _
          rw [hh20]
          exact ⟨congrArg (fun z => some (Value.int z)) ((if_pos ha20).trans ((if_pos hc31).trans ((if_neg hc45).trans rfl))).symm, N20, rfl⟩
    · have pre24 : ∀ t, Steps p.tables e below (T13.setTop (mkF m 53 #[rv r0, rv r1, rv r1] [(.int (0 : Int32))])) t → Steps p.tables e below (s₁.setTop (entryFrame m #[(.ref r0), (.ref r1)] 3)) t := by
        intro t kt
        refine pre14 _ ?_
        show Steps p.tables e below (T13.setTop (mkF m 31 #[rv r0, rv r1, rv r1] [(.int u2), (.int w2)])) _
        refine XS.icmpYes X13.here hx rfl (pc0 := 31) (pc' := 52) rfl (hb hby d10_31) rfl (feq hc31).2 (by decide) (by decide) ?_
        show Steps p.tables e below (T13.setTop (mkF m 52 #[rv r0, rv r1, rv r1] [])) _
        refine XS.iconst X13.here hx rfl (hb hby d10_52) ?_
        exact kt
      obtain ⟨fs, hr, hrun, hended, hW, hsame⟩ := X13.leave (v := some (.int (0 : Int32))) (fun h => by rw [Bd.returns] at h; cases h)
      refine ⟨_, _, pre24 _ ?_, hrun, hended, _, _, rfl, ?_, ⟨_, rfl⟩, hW, hsame.mono (by decide) (by decide)⟩
      · show Steps p.tables e below (T13.setTop (mkF m 53 #[rv r0, rv r1, rv r1] [(.int (0 : Int32))])) _
        exact retN X13 hx (t := .boolean) Bd.returns (by simp) (hb hby d10_53) hr
      · show Q10v11 Z r0 r1 w1 w2 w3 u1 u2 u3 y0 y1 k1 k2 s0 t0 cs h0 n0 _ T13.heap _
        rw [e13]
        exact ⟨congrArg (fun z => some (Value.int z)) ((if_pos ha20).trans ((if_neg hc31).trans rfl)).symm, N0, rfl⟩
  · have pre25 : ∀ t, Steps p.tables e below (T8.setTop (mkF m 53 #[rv r0, rv r1, rv r1] [(.int (0 : Int32))])) t → Steps p.tables e below (s₁.setTop (entryFrame m #[(.ref r0), (.ref r1)] 3)) t := by
      intro t kt
      refine pre9 _ ?_
      show Steps p.tables e below (T8.setTop (mkF m 20 #[rv r0, rv r1, rv r1] [(.ref u1), (.ref w1)])) _
      refine Jvm.RoadKit.acmp (g := (mkF m 20 #[rv r0, rv r1, rv r1] [(.ref u1), (.ref w1)])) X8 hx rfl rfl rfl (pc0 := 20) (pc' := 52) (same := false) rfl (hb hby d10_20) rfl (decide_eq_false fun q => ha20 (Value.ref.inj q)) (by decide) (by decide) ?_
      show Steps p.tables e below (T8.setTop (mkF m 52 #[rv r0, rv r1, rv r1] [])) _
      refine XS.iconst X8.here hx rfl (hb hby d10_52) ?_
      exact kt
    obtain ⟨fs, hr, hrun, hended, hW, hsame⟩ := X8.leave (v := some (.int (0 : Int32))) (fun h => by rw [Bd.returns] at h; cases h)
    refine ⟨_, _, pre25 _ ?_, hrun, hended, _, _, rfl, ?_, ⟨_, rfl⟩, hW, hsame.mono (by decide) (by decide)⟩
    · show Steps p.tables e below (T8.setTop (mkF m 53 #[rv r0, rv r1, rv r1] [(.int (0 : Int32))])) _
      exact retN X8 hx (t := .boolean) Bd.returns (by simp) (hb hby d10_53) hr
    · show Q10v11 Z r0 r1 w1 w2 w3 u1 u2 u3 y0 y1 k1 k2 s0 t0 cs h0 n0 _ T8.heap _
      rw [e8]
      exact ⟨congrArg (fun z => some (Value.int z)) ((if_neg ha20).trans rfl).symm, N0, rfl⟩
def own_de12 (w1 : Addr) (w2 : Int32) (u1 : Addr) (u2 : Int32) (s0 : Int32) (t0 : Int32) (t1 : Int32) : Int32 := (if w1 = u1 then (if w2 = u2 then (if (own_se12 s0 t0 t1) = (0 : Int32) then (0 : Int32) else (1 : Int32)) else (0 : Int32)) else (0 : Int32))

theorem ef_10v12 (m : MethodId) (x0 : Addr) (x1 : Addr) : entryFrame m #[(.ref x0), (.ref x1)] 3 = mkF m 0 #[.val (.ref x0), .val (.ref x1), .unset] [] := by first | (simp [entryFrame, mkF, argsToLocals, Value.category]; done) | rfl
def Q10v12 (Z : State) (r0 : Addr) (r1 : Addr) (w1 : Addr) (w2 : Int32) (w3 : Addr) (u1 : Addr) (u2 : Int32) (u3 : Addr) (y0 : Addr) (y1 : Addr) (k1 : ClassId) (k2 : ClassId) (s0 : Int32) (t0 : Int32) (t1 : Int32) (cs : Int32) (h0 : Heap) (n0 : Nat) (v : Option Value) (h : Heap) (L : List Loc) : Prop := v = some (.int (own_de12 w1 w2 u1 u2 s0 t0 t1)) ∧ Fr n0 L ∧ h = h0
set_option maxRecDepth 65536 in
set_option maxHeartbeats 40000000 in
theorem rm10v12 (l : Launch) (Z : State) (a0 : Array Value) (hw : ∀ d ∈ tables_1, d.before a0 Z = true) (ws : List Jvm.Cond) (r0 : Addr) (r1 : Addr) (w1 : Addr) (w2 : Int32) (w3 : Addr) (u1 : Addr) (u2 : Int32) (u3 : Addr) (y0 : Addr) (y1 : Addr) (k1 : ClassId) (k2 : ClassId) (s0 : Int32) (t0 : Int32) (t1 : Int32) (cs : Int32) (h0 : Heap) (n0 : Nat) (Z0 : n0 ≤ h0.size) (O0 : Old Z n0 h0) (S_cs : Sta Z Z.heap "java/lang/String" "COMPACT_STRINGS" "Z" (.int cs)) (hcs : ¬ (cs = (0 : Int32))) (F_reason_r0 : Fld Z h0 r0 "com/example/fair_witness/fairwitness/verifier/DecodingFailure" "reason" "Lcom/example/fair_witness/fairwitness/verifier/Reason;" (.ref w1)) (F_certificateIndex_r0 : Fld Z h0 r0 "com/example/fair_witness/fairwitness/verifier/DecodingFailure" "certificateIndex" "I" (.int w2)) (F_detail_r0 : Fld Z h0 r0 "com/example/fair_witness/fairwitness/verifier/DecodingFailure" "detail" "Ljava/lang/String;" (.ref w3)) (E_r0 : Exa Z h0 r0 "com/example/fair_witness/fairwitness/verifier/DecodingFailure") (F_reason_r1 : Fld Z h0 r1 "com/example/fair_witness/fairwitness/verifier/DecodingFailure" "reason" "Lcom/example/fair_witness/fairwitness/verifier/Reason;" (.ref u1)) (F_certificateIndex_r1 : Fld Z h0 r1 "com/example/fair_witness/fairwitness/verifier/DecodingFailure" "certificateIndex" "I" (.int u2)) (F_detail_r1 : Fld Z h0 r1 "com/example/fair_witness/fairwitness/verifier/DecodingFailure" "detail" "Ljava/lang/String;" (.ref u3)) (E_r1 : Exa Z h0 r1 "com/example/fair_witness/fairwitness/verifier/DecodingFailure") (F_value_w3 : Fld Z h0 w3 "java/lang/String" "value" "[B" (.ref y0)) (F_coder_w3 : Fld Z h0 w3 "java/lang/String" "coder" "B" (.int (0 : Int32))) (E_w3 : Exa Z h0 w3 "java/lang/String") (V_y0 : Arv Z h0 y0 k1 .byte (1 : Int32) [(.int s0)] (.int (0 : Int32))) (F_value_u3 : Fld Z h0 u3 "java/lang/String" "value" "[B" (.ref y1)) (F_coder_u3 : Fld Z h0 u3 "java/lang/String" "coder" "B" (.int (0 : Int32))) (E_u3 : Exa Z h0 u3 "java/lang/String") (V_y1 : Arv Z h0 y1 k2 .byte (2 : Int32) [(.int t0), (.int t1)] (.int (0 : Int32))) (hne : w3 ≠ u3) :
    MetFree l (⟨"com/example/fair_witness/fairwitness/verifier/DecodingFailure", "equals", "(Ljava/lang/Object;)Z"⟩ : MethodName) (head1 (Jvm.Cond.code (⟨"com/example/fair_witness/fairwitness/verifier/DecodingFailure", "equals", "(Ljava/lang/Object;)Z"⟩ : MethodName) prog_25_method_5_code 3 (some .boolean) :: ws) ({ frames := 2, cells := 0, slots := 0, locals := 28 } : Room)) (fun a U => a = #[(.ref r0), (.ref r1)] ∧ Z.Warmed39 U.vm ∧ U.heap = h0) (fun _ _ _ _ _ => True) (fun _ U o U' => ∃ v L, o = .returned v ∧ Q10v12 Z r0 r1 w1 w2 w3 u1 u2 u3 y0 y1 k1 k2 s0 t0 t1 cs h0 n0 v U'.heap L ∧ FrameEnd U o U' L ({ frames := 2, cells := 0, slots := 0, locals := 28 } : Room).cells ({ frames := 2, cells := 0, slots := 0, locals := 28 } : Room).slots) := by
  refine MetFree.of_bodySF (plainFor_of_name pn13) hisR ?_
  intro p e s m args below meth c s₁ Bd hml0 hP hK
  obtain ⟨rfl, hZ, hh⟩ := hP
  have hx := Bd.exec
  have hby := Bd.bytes
  have hml : c.maxLocals = 3 := hml0
  have hown : s.vm.findClass "com/example/fair_witness/fairwitness/verifier/DecodingFailure" = some m.cls := findClass_of_methodNamed Bd.named
  have hnm := (name_of_methodNamed Bd.named Bd.method).1
  have X0 : Stand p l e ({ frames := 2, cells := 0, slots := 0, locals := 28 } : Room) s m #[(.ref r0), (.ref r1)] below meth c s₁ [] 0 0 := Stand.of_body Bd
  have e0 : s₁.heap = h0 := by rw [← hh, Bd.state]; rfl
  have N0 := Fr.nil n0
  have pre0 : ∀ t, Steps p.tables e below (s₁.setTop (mkF m 0 #[rv r0, rv r1, .unset] [])) t → Steps p.tables e below (s₁.setTop (entryFrame m #[(.ref r0), (.ref r1)] 3)) t := fun t k => castTop (ef_10v12 m r0 r1) k
  have pre1 : ∀ t, Steps p.tables e below (s₁.setTop (mkF m 1 #[rv r0, rv r1, .unset] [(.ref r1)])) t → Steps p.tables e below (s₁.setTop (entryFrame m #[(.ref r0), (.ref r1)] 3)) t := by
    intro t kt
    refine pre0 _ ?_
    show Steps p.tables e below (s₁.setTop (mkF m 0 #[rv r0, rv r1, .unset] [])) _
    refine XS.aloadN X0.here hx rfl (hb hby d10_0) rfl rfl ?_
    exact kt
  obtain ⟨T2, X2, e2, st2⟩ := instY X0 hx hZ hown (hw _ (List.mem_of_getElem? (i := 74) rfl)) e0 (Ins.self E_r1) (g := (mkF m 1 #[rv r0, rv r1, .unset] [(.ref r1)])) rfl rfl (hb hby d10_1)
  have pre3 : ∀ t, Steps p.tables e below (T2.setTop (mkF m 8 #[rv r0, rv r1, .unset] [(.ref r1)])) t → Steps p.tables e below (s₁.setTop (entryFrame m #[(.ref r0), (.ref r1)] 3)) t := by
    intro t kt
    refine pre1 _ ?_
    show Steps p.tables e below (s₁.setTop (mkF m 1 #[rv r0, rv r1, .unset] [(.ref r1)])) _
    refine st2 _ ?_
    show Steps p.tables e below (T2.setTop (mkF m 4 #[rv r0, rv r1, .unset] [(.int (1 : Int32))])) _
    refine XS.ifNo X2.here hx rfl (hb hby d10_4) rfl ((if0 _ _).trans (feq (by decide)).1) ?_
    show Steps p.tables e below (T2.setTop (mkF m 7 #[rv r0, rv r1, .unset] [])) _
    refine XS.aloadN X2.here hx rfl (hb hby d10_7) rfl rfl ?_
    exact kt
  obtain ⟨T4, X4, e4, st4⟩ := castY X2 hx hZ hown (hw _ (List.mem_of_getElem? (i := 74) rfl)) e2 (Ins.self E_r1) (g := (mkF m 8 #[rv r0, rv r1, .unset] [(.ref r1)])) rfl rfl (hb hby d10_8)
  have pre5 : ∀ t, Steps p.tables e below (T4.setTop (mkF m 13 #[rv r0, rv r1, rv r1] [(.ref r0)])) t → Steps p.tables e below (s₁.setTop (entryFrame m #[(.ref r0), (.ref r1)] 3)) t := by
    intro t kt
    refine pre3 _ ?_
    show Steps p.tables e below (T2.setTop (mkF m 8 #[rv r0, rv r1, .unset] [(.ref r1)])) _
    refine st4 _ ?_
    show Steps p.tables e below (T4.setTop (mkF m 11 #[rv r0, rv r1, .unset] [(.ref r1)])) _
    refine XS.astoreN X4.here hx rfl (hb hby d10_11) rfl rfl (l' := #[rv r0, rv r1, rv r1]) rfl ?_
    show Steps p.tables e below (T4.setTop (mkF m 12 #[rv r0, rv r1, rv r1] [])) _
    refine XS.aloadN X4.here hx rfl (hb hby d10_12) rfl rfl ?_
    exact kt
  obtain ⟨T6, X6, e6, st6⟩ := getF X4 hx hZ hown (host := "") (Or.inl (hw _ (List.mem_of_getElem? (i := 47) rfl))) Via.refl e4 F_reason_r0 (g := (mkF m 13 #[rv r0, rv r1, rv r1] [(.ref r0)])) rfl rfl (hb hby d10_13)
  have pre7 : ∀ t, Steps p.tables e below (T6.setTop (mkF m 17 #[rv r0, rv r1, rv r1] [(.ref r1), (.ref w1)])) t → Steps p.tables e below (s₁.setTop (entryFrame m #[(.ref r0), (.ref r1)] 3)) t := by
    intro t kt
    refine pre5 _ ?_
    show Steps p.tables e below (T4.setTop (mkF m 13 #[rv r0, rv r1, rv r1] [(.ref r0)])) _
    refine st6 _ ?_
    show Steps p.tables e below (T6.setTop (mkF m 16 #[rv r0, rv r1, rv r1] [(.ref w1)])) _
    refine XS.aloadN X6.here hx rfl (hb hby d10_16) rfl rfl ?_
    exact kt
  obtain ⟨T8, X8, e8, st8⟩ := getF X6 hx hZ hown (host := "") (Or.inl (hw _ (List.mem_of_getElem? (i := 47) rfl))) Via.refl e6 F_reason_r1 (g := (mkF m 17 #[rv r0, rv r1, rv r1] [(.ref r1), (.ref w1)])) rfl rfl (hb hby d10_17)
  have pre9 : ∀ t, Steps p.tables e below (T8.setTop (mkF m 20 #[rv r0, rv r1, rv r1] [(.ref u1), (.ref w1)])) t → Steps p.tables e below (s₁.setTop (entryFrame m #[(.ref r0), (.ref r1)] 3)) t := by
    intro t kt
    refine pre7 _ ?_
    show Steps p.tables e below (T6.setTop (mkF m 17 #[rv r0, rv r1, rv r1] [(.ref r1), (.ref w1)])) _
    refine st8 _ ?_
    exact kt
  by_cases ha20 : w1 = u1
  · have pre10 : ∀ t, Steps p.tables e below (T8.setTop (mkF m 24 #[rv r0, rv r1, rv r1] [(.ref r0)])) t → Steps p.tables e below (s₁.setTop (entryFrame m #[(.ref r0), (.ref r1)] 3)) t := by
      intro t kt
      refine pre9 _ ?_
      show Steps p.tables e below (T8.setTop (mkF m 20 #[rv r0, rv r1, rv r1] [(.ref u1), (.ref w1)])) _
      refine Jvm.RoadKit.acmp (g := (mkF m 20 #[rv r0, rv r1, rv r1] [(.ref u1), (.ref w1)])) X8 hx rfl rfl rfl (pc0 := 20) (pc' := 23) (same := true) rfl (hb hby d10_20) rfl (decide_eq_true (congrArg Value.ref ha20)) (by decide) (by decide) ?_
      show Steps p.tables e below (T8.setTop (mkF m 23 #[rv r0, rv r1, rv r1] [])) _
      refine XS.aloadN X8.here hx rfl (hb hby d10_23) rfl rfl ?_
      exact kt
    obtain ⟨T11, X11, e11, st11⟩ := getF X8 hx hZ hown (host := "") (Or.inl (hw _ (List.mem_of_getElem? (i := 49) rfl))) Via.refl e8 F_certificateIndex_r0 (g := (mkF m 24 #[rv r0, rv r1, rv r1] [(.ref r0)])) rfl rfl (hb hby d10_24)
    have pre12 : ∀ t, Steps p.tables e below (T11.setTop (mkF m 28 #[rv r0, rv r1, rv r1] [(.ref r1), (.int w2)])) t → Steps p.tables e below (s₁.setTop (entryFrame m #[(.ref r0), (.ref r1)] 3)) t := by
      intro t kt
      refine pre10 _ ?_
      show Steps p.tables e below (T8.setTop (mkF m 24 #[rv r0, rv r1, rv r1] [(.ref r0)])) _
      refine st11 _ ?_
      show Steps p.tables e below (T11.setTop (mkF m 27 #[rv r0, rv r1, rv r1] [(.int w2)])) _
      refine XS.aloadN X11.here hx rfl (hb hby d10_27) rfl rfl ?_
      exact kt
    obtain ⟨T13, X13, e13, st13⟩ := getF X11 hx hZ hown (host := "") (Or.inl (hw _ (List.mem_of_getElem? (i := 49) rfl))) Via.refl e11 F_certificateIndex_r1 (g := (mkF m 28 #[rv r0, rv r1, rv r1] [(.ref r1), (.int w2)])) rfl rfl (hb hby d10_28)
    have pre14 : ∀ t, Steps p.tables e below (T13.setTop (mkF m 31 #[rv r0, rv r1, rv r1] [(.int u2), (.int w2)])) t → Steps p.tables e below (s₁.setTop (entryFrame m #[(.ref r0), (.ref r1)] 3)) t := by
      intro t kt
      refine pre12 _ ?_
      show Steps p.tables e below (T11.setTop (mkF m 28 #[rv r0, rv r1, rv r1] [(.ref r1), (.int w2)])) _
      refine st13 _ ?_
      exact kt
    by_cases hc31 : w2 = u2
    · have pre15 : ∀ t, Steps p.tables e below (T13.setTop (mkF m 35 #[rv r0, rv r1, rv r1] [(.ref r0)])) t → Steps p.tables e below (s₁.setTop (entryFrame m #[(.ref r0), (.ref r1)] 3)) t := by
        intro t kt
        refine pre14 _ ?_
        show Steps p.tables e below (T13.setTop (mkF m 31 #[rv r0, rv r1, rv r1] [(.int u2), (.int w2)])) _
        refine XS.icmpNo X13.here hx rfl (hb hby d10_31) rfl (teq hc31).2 ?_
        show Steps p.tables e below (T13.setTop (mkF m 34 #[rv r0, rv r1, rv r1] [])) _
        refine XS.aloadN X13.here hx rfl (hb hby d10_34) rfl rfl ?_
        exact kt
      obtain ⟨T16, X16, e16, st16⟩ := getF X13 hx hZ hown (host := "") (Or.inl (hw _ (List.mem_of_getElem? (i := 51) rfl))) Via.refl e13 F_detail_r0 (g := (mkF m 35 #[rv r0, rv r1, rv r1] [(.ref r0)])) rfl rfl (hb hby d10_35)
      have pre17 : ∀ t, Steps p.tables e below (T16.setTop (mkF m 39 #[rv r0, rv r1, rv r1] [(.ref r1), (.ref w3)])) t → Steps p.tables e below (s₁.setTop (entryFrame m #[(.ref r0), (.ref r1)] 3)) t := by
        intro t kt
        refine pre15 _ ?_
        show Steps p.tables e below (T13.setTop (mkF m 35 #[rv r0, rv r1, rv r1] [(.ref r0)])) _
        refine st16 _ ?_
        show Steps p.tables e below (T16.setTop (mkF m 38 #[rv r0, rv r1, rv r1] [(.ref w3)])) _
        refine XS.aloadN X16.here hx rfl (hb hby d10_38) rfl rfl ?_
        exact kt
      obtain ⟨T18, X18, e18, st18⟩ := getF X16 hx hZ hown (host := "") (Or.inl (hw _ (List.mem_of_getElem? (i := 51) rfl))) Via.refl e16 F_detail_r1 (g := (mkF m 39 #[rv r0, rv r1, rv r1] [(.ref r1), (.ref w3)])) rfl rfl (hb hby d10_39)
      have pre19 : ∀ t, Steps p.tables e below (T18.setTop (mkF m 42 #[rv r0, rv r1, rv r1] [(.ref u3), (.ref w3)])) t → Steps p.tables e below (s₁.setTop (entryFrame m #[(.ref r0), (.ref r1)] 3)) t := by
        intro t kt
        refine pre17 _ ?_
        show Steps p.tables e below (T16.setTop (mkF m 39 #[rv r0, rv r1, rv r1] [(.ref r1), (.ref w3)])) _
        refine st18 _ ?_
        exact kt
      obtain ⟨cq20, kq20, q20a, q20b, q20c⟩ := isOf hZ e18 E_w3
      obtain ⟨_, _, ⟨T20, L20, k20, n20⟩, -, X20, ⟨Lc20, hQ20, l20, y20, z20⟩, st20⟩ := X18.virtualBack hx (y := (⟨"java/lang/String", "equals", "(Ljava/lang/Object;)Z"⟩ : MethodName)) (z := (⟨"java/lang/String", "equals", "(Ljava/lang/Object;)Z"⟩ : MethodName)) hown (mvT hZ (hw _ (List.mem_of_getElem? (i := 78) rfl))) (mvT hZ (hw _ (List.mem_of_getElem? (i := 79) rfl))) (notFace_of_selects (args := #[]) (mvT hZ (hw _ (List.mem_of_getElem? (i := 81) rfl)))) (mvT hZ (hw _ (List.mem_of_getElem? (i := 81) rfl))) (mvT hZ (hw _ (List.mem_of_getElem? (i := 80) rfl))) (by decide) (backOf (W := 0) (rm15v12 l Z a0 hw [] w3 u3 y0 y1 k1 k2 s0 t0 t1 cs h0 n0 (Nat.le_trans Z0 (Keep.refl h0 []).1) (O0.keep (Keep.refl h0 []) all0) S_cs hcs F_value_w3 F_coder_w3 E_w3 V_y0 F_value_u3 F_coder_u3 E_u3 V_y1 hne) hZ (hw _ (List.mem_of_getElem? (i := 82) rfl)) (hw _ (List.mem_of_getElem? (i := 6) rfl)) (by decide) (by decide)) q20a q20c (g := (mkF m 42 #[rv r0, rv r1, rv r1] [(.ref u3), (.ref w3)])) rfl (by rw [hml]; rfl) (Steps.refl _) (argsL := [(.ref u3)]) (rest := []) (lenOf pd15 rfl) rfl (by show 2 * 0 + _ ≤ _; exact Nat.le_of_eq rfl) (hb hby d10_42) (fun _ _ => ⟨rfl, e18, (by decide : 0 + 0 ≤ _), (by decide : 0 + 0 ≤ _)⟩)
      dsimp only [Pt.U, Pt.locs, Pt.cells, Pt.slots] at X20 l20 y20 z20 st20 hQ20
      subst l20 y20 z20
      obtain ⟨rfl, N20q, hh20⟩ := hQ20
      have N20 := Fr.app N0 N20q
      have pre21 : ∀ t, Steps p.tables e below (T20.setTop (mkF m 45 #[rv r0, rv r1, rv r1] [(.int (own_se12 s0 t0 t1))])) t → Steps p.tables e below (s₁.setTop (entryFrame m #[(.ref r0), (.ref r1)] 3)) t := by
        intro t kt
        refine pre19 _ ?_
        show Steps p.tables e below (T18.setTop (mkF m 42 #[rv r0, rv r1, rv r1] [(.ref u3), (.ref w3)])) _
        refine st20.trans ?_
        exact kt
      by_cases hc45 : (own_se12 s0 t0 t1) = (0 : Int32)
      · have pre22 : ∀ t, Steps p.tables e below (T20.setTop (mkF m 53 #[rv r0, rv r1, rv r1] [(.int (0 : Int32))])) t → Steps p.tables e below (s₁.setTop (entryFrame m #[(.ref r0), (.ref r1)] 3)) t := by
          intro t kt
          refine pre21 _ ?_
          show Steps p.tables e below (T20.setTop (mkF m 45 #[rv r0, rv r1, rv r1] [(.int (own_se12 s0 t0 t1))])) _
          refine XS.ifYes X20.here hx rfl (pc0 := 45) (pc' := 52) rfl (hb hby d10_45) rfl ((if0 _ _).trans (teq hc45).1) (by decide) (by decide) ?_
          show Steps p.tables e below (T20.setTop (mkF m 52 #[rv r0, rv r1, rv r1] [])) _
          refine XS.iconst X20.here hx rfl (hb hby d10_52) ?_
          exact kt
        obtain ⟨fs, hr, hrun, hended, hW, hsame⟩ := X20.leave (v := some (.int (0 : Int32))) (fun h => by rw [Bd.returns] at h; cases h)
        refine ⟨_, _, pre22 _ ?_, hrun, hended, _, _, rfl, ?_, ⟨_, rfl⟩, hW, hsame.mono (by decide) (by decide)⟩
        · show Steps p.tables e below (T20.setTop (mkF m 53 #[rv r0, rv r1, rv r1] [(.int (0 : Int32))])) _
          exact retN X20 hx (t := .boolean) Bd.returns (by simp) (hb hby d10_53) hr
        · show Q10v12 Z r0 r1 w1 w2 w3 u1 u2 u3 y0 y1 k1 k2 s0 t0 t1 cs h0 n0 _ T20.heap _
          rw [hh20]
          exact ⟨congrArg (fun z => some (Value.int z)) ((if_pos ha20).trans ((if_pos hc31).trans ((if_pos hc45).trans rfl))).symm, N20, rfl⟩
      · have pre23 : ∀ t, Steps p.tables e below (T20.setTop (mkF m 53 #[rv r0, rv r1, rv r1] [(.int (1 : Int32))])) t → Steps p.tables e below (s₁.setTop (entryFrame m #[(.ref r0), (.ref r1)] 3)) t := by
          intro t kt
          refine pre21 _ ?_
          show Steps p.tables e below (T20.setTop (mkF m 45 #[rv r0, rv r1, rv r1] [(.int (own_se12 s0 t0 t1))])) _
          refine XS.ifNo X20.here hx rfl (hb hby d10_45) rfl ((if0 _ _).trans (feq hc45).1) ?_
          show Steps p.tables e below (T20.setTop (mkF m 48 #[rv r0, rv r1, rv r1] [])) _
          refine XS.iconst X20.here hx rfl (hb hby d10_48) ?_
          show Steps p.tables e below (T20.setTop (mkF m 49 #[rv r0, rv r1, rv r1] [(.int (1 : Int32))])) _
          refine XS.goto X20.here hx rfl (pc0 := 49) (pc' := 53) rfl (hb hby d10_49) (by decide) (by decide) ?_
          exact kt
        obtain ⟨fs, hr, hrun, hended, hW, hsame⟩ := X20.leave (v := some (.int (1 : Int32))) (fun h => by rw [Bd.returns] at h; cases h)
        refine ⟨_, _, pre23 _ ?_, hrun, hended, _, _, rfl, ?_, ⟨_, rfl⟩, hW, hsame.mono (by decide) (by decide)⟩
        · show Steps p.tables e below (T20.setTop (mkF m 53 #[rv r0, rv r1, rv r1] [(.int (1 : Int32))])) _
          exact retN X20 hx (t := .boolean) Bd.returns (by simp) (hb hby d10_53) hr
        · show Q10v12 Z r0 r1 w1 w2 w3 u1 u2 u3 y0 y1 k1 k2 s0 t0 t1 cs h0 n0 _ T20.heap _
          rw [hh20]
          exact ⟨congrArg (fun z => some (Value.int z)) ((if_pos ha20).trans ((if_pos hc31).trans ((if_neg hc45).trans rfl))).symm, N20, rfl⟩
    · have pre24 : ∀ t, Steps p.tables e below (T13.setTop (mkF m 53 #[rv r0, rv r1, rv r1] [(.int (0 : Int32))])) t → Steps p.tables e below (s₁.setTop (entryFrame m #[(.ref r0), (.ref r1)] 3)) t := by
        intro t kt
        refine pre14 _ ?_
        show Steps p.tables e below (T13.setTop (mkF m 31 #[rv r0, rv r1, rv r1] [(.int u2), (.int w2)])) _
        refine XS.icmpYes X13.here hx rfl (pc0 := 31) (pc' := 52) rfl (hb hby d10_31) rfl (feq hc31).2 (by decide) (by decide) ?_
        show Steps p.tables e below (T13.setTop (mkF m 52 #[rv r0, rv r1, rv r1] [])) _
        refine XS.iconst X13.here hx rfl (hb hby d10_52) ?_
        exact kt
      obtain ⟨fs, hr, hrun, hended, hW, hsame⟩ := X13.leave (v := some (.int (0 : Int32))) (fun h => by rw [Bd.returns] at h; cases h)
      refine ⟨_, _, pre24 _ ?_, hrun, hended, _, _, rfl, ?_, ⟨_, rfl⟩, hW, hsame.mono (by decide) (by decide)⟩
      · show Steps p.tables e below (T13.setTop (mkF m 53 #[rv r0, rv r1, rv r1] [(.int (0 : Int32))])) _
        exact retN X13 hx (t := .boolean) Bd.returns (by simp) (hb hby d10_53) hr
      · show Q10v12 Z r0 r1 w1 w2 w3 u1 u2 u3 y0 y1 k1 k2 s0 t0 t1 cs h0 n0 _ T13.heap _
        rw [e13]
        exact ⟨congrArg (fun z => some (Value.int z)) ((if_pos ha20).trans ((if_neg hc31).trans rfl)).symm, N0, rfl⟩
  · have pre25 : ∀ t, Steps p.tables e below (T8.setTop (mkF m 53 #[rv r0, rv r1, rv r1] [(.int (0 : Int32))])) t → Steps p.tables e below (s₁.setTop (entryFrame m #[(.ref r0), (.ref r1)] 3)) t := by
      intro t kt
      refine pre9 _ ?_
      show Steps p.tables e below (T8.setTop (mkF m 20 #[rv r0, rv r1, rv r1] [(.ref u1), (.ref w1)])) _
      refine Jvm.RoadKit.acmp (g := (mkF m 20 #[rv r0, rv r1, rv r1] [(.ref u1), (.ref w1)])) X8 hx rfl rfl rfl (pc0 := 20) (pc' := 52) (same := false) rfl (hb hby d10_20) rfl (decide_eq_false fun q => ha20 (Value.ref.inj q)) (by decide) (by decide) ?_
      show Steps p.tables e below (T8.setTop (mkF m 52 #[rv r0, rv r1, rv r1] [])) _
      refine XS.iconst X8.here hx rfl (hb hby d10_52) ?_
      exact kt
    obtain ⟨fs, hr, hrun, hended, hW, hsame⟩ := X8.leave (v := some (.int (0 : Int32))) (fun h => by rw [Bd.returns] at h; cases h)
    refine ⟨_, _, pre25 _ ?_, hrun, hended, _, _, rfl, ?_, ⟨_, rfl⟩, hW, hsame.mono (by decide) (by decide)⟩
    · show Steps p.tables e below (T8.setTop (mkF m 53 #[rv r0, rv r1, rv r1] [(.int (0 : Int32))])) _
      exact retN X8 hx (t := .boolean) Bd.returns (by simp) (hb hby d10_53) hr
    · show Q10v12 Z r0 r1 w1 w2 w3 u1 u2 u3 y0 y1 k1 k2 s0 t0 t1 cs h0 n0 _ T8.heap _
      rw [e8]
      exact ⟨congrArg (fun z => some (Value.int z)) ((if_neg ha20).trans rfl).symm, N0, rfl⟩
def own_de21 (w1 : Addr) (w2 : Int32) (u1 : Addr) (u2 : Int32) (s0 : Int32) (s1 : Int32) (t0 : Int32) : Int32 := (if w1 = u1 then (if w2 = u2 then (if (own_se21 s0 s1 t0) = (0 : Int32) then (0 : Int32) else (1 : Int32)) else (0 : Int32)) else (0 : Int32))

theorem ef_10v21 (m : MethodId) (x0 : Addr) (x1 : Addr) : entryFrame m #[(.ref x0), (.ref x1)] 3 = mkF m 0 #[.val (.ref x0), .val (.ref x1), .unset] [] := by first | (simp [entryFrame, mkF, argsToLocals, Value.category]; done) | rfl
def Q10v21 (Z : State) (r0 : Addr) (r1 : Addr) (w1 : Addr) (w2 : Int32) (w3 : Addr) (u1 : Addr) (u2 : Int32) (u3 : Addr) (y0 : Addr) (y1 : Addr) (k1 : ClassId) (k2 : ClassId) (s0 : Int32) (s1 : Int32) (t0 : Int32) (cs : Int32) (h0 : Heap) (n0 : Nat) (v : Option Value) (h : Heap) (L : List Loc) : Prop := v = some (.int (own_de21 w1 w2 u1 u2 s0 s1 t0)) ∧ Fr n0 L ∧ h = h0
set_option maxRecDepth 65536 in
set_option maxHeartbeats 40000000 in
theorem rm10v21 (l : Launch) (Z : State) (a0 : Array Value) (hw : ∀ d ∈ tables_1, d.before a0 Z = true) (ws : List Jvm.Cond) (r0 : Addr) (r1 : Addr) (w1 : Addr) (w2 : Int32) (w3 : Addr) (u1 : Addr) (u2 : Int32) (u3 : Addr) (y0 : Addr) (y1 : Addr) (k1 : ClassId) (k2 : ClassId) (s0 : Int32) (s1 : Int32) (t0 : Int32) (cs : Int32) (h0 : Heap) (n0 : Nat) (Z0 : n0 ≤ h0.size) (O0 : Old Z n0 h0) (S_cs : Sta Z Z.heap "java/lang/String" "COMPACT_STRINGS" "Z" (.int cs)) (hcs : ¬ (cs = (0 : Int32))) (F_reason_r0 : Fld Z h0 r0 "com/example/fair_witness/fairwitness/verifier/DecodingFailure" "reason" "Lcom/example/fair_witness/fairwitness/verifier/Reason;" (.ref w1)) (F_certificateIndex_r0 : Fld Z h0 r0 "com/example/fair_witness/fairwitness/verifier/DecodingFailure" "certificateIndex" "I" (.int w2)) (F_detail_r0 : Fld Z h0 r0 "com/example/fair_witness/fairwitness/verifier/DecodingFailure" "detail" "Ljava/lang/String;" (.ref w3)) (E_r0 : Exa Z h0 r0 "com/example/fair_witness/fairwitness/verifier/DecodingFailure") (F_reason_r1 : Fld Z h0 r1 "com/example/fair_witness/fairwitness/verifier/DecodingFailure" "reason" "Lcom/example/fair_witness/fairwitness/verifier/Reason;" (.ref u1)) (F_certificateIndex_r1 : Fld Z h0 r1 "com/example/fair_witness/fairwitness/verifier/DecodingFailure" "certificateIndex" "I" (.int u2)) (F_detail_r1 : Fld Z h0 r1 "com/example/fair_witness/fairwitness/verifier/DecodingFailure" "detail" "Ljava/lang/String;" (.ref u3)) (E_r1 : Exa Z h0 r1 "com/example/fair_witness/fairwitness/verifier/DecodingFailure") (F_value_w3 : Fld Z h0 w3 "java/lang/String" "value" "[B" (.ref y0)) (F_coder_w3 : Fld Z h0 w3 "java/lang/String" "coder" "B" (.int (0 : Int32))) (E_w3 : Exa Z h0 w3 "java/lang/String") (V_y0 : Arv Z h0 y0 k1 .byte (2 : Int32) [(.int s0), (.int s1)] (.int (0 : Int32))) (F_value_u3 : Fld Z h0 u3 "java/lang/String" "value" "[B" (.ref y1)) (F_coder_u3 : Fld Z h0 u3 "java/lang/String" "coder" "B" (.int (0 : Int32))) (E_u3 : Exa Z h0 u3 "java/lang/String") (V_y1 : Arv Z h0 y1 k2 .byte (1 : Int32) [(.int t0)] (.int (0 : Int32))) (hne : w3 ≠ u3) :
    MetFree l (⟨"com/example/fair_witness/fairwitness/verifier/DecodingFailure", "equals", "(Ljava/lang/Object;)Z"⟩ : MethodName) (head1 (Jvm.Cond.code (⟨"com/example/fair_witness/fairwitness/verifier/DecodingFailure", "equals", "(Ljava/lang/Object;)Z"⟩ : MethodName) prog_25_method_5_code 3 (some .boolean) :: ws) ({ frames := 2, cells := 0, slots := 0, locals := 28 } : Room)) (fun a U => a = #[(.ref r0), (.ref r1)] ∧ Z.Warmed39 U.vm ∧ U.heap = h0) (fun _ _ _ _ _ => True) (fun _ U o U' => ∃ v L, o = .returned v ∧ Q10v21 Z r0 r1 w1 w2 w3 u1 u2 u3 y0 y1 k1 k2 s0 s1 t0 cs h0 n0 v U'.heap L ∧ FrameEnd U o U' L ({ frames := 2, cells := 0, slots := 0, locals := 28 } : Room).cells ({ frames := 2, cells := 0, slots := 0, locals := 28 } : Room).slots) := by
  refine MetFree.of_bodySF (plainFor_of_name pn13) hisR ?_
  intro p e s m args below meth c s₁ Bd hml0 hP hK
  obtain ⟨rfl, hZ, hh⟩ := hP
  have hx := Bd.exec
  have hby := Bd.bytes
  have hml : c.maxLocals = 3 := hml0
  have hown : s.vm.findClass "com/example/fair_witness/fairwitness/verifier/DecodingFailure" = some m.cls := findClass_of_methodNamed Bd.named
  have hnm := (name_of_methodNamed Bd.named Bd.method).1
  have X0 : Stand p l e ({ frames := 2, cells := 0, slots := 0, locals := 28 } : Room) s m #[(.ref r0), (.ref r1)] below meth c s₁ [] 0 0 := Stand.of_body Bd
  have e0 : s₁.heap = h0 := by rw [← hh, Bd.state]; rfl
  have N0 := Fr.nil n0
  have pre0 : ∀ t, Steps p.tables e below (s₁.setTop (mkF m 0 #[rv r0, rv r1, .unset] [])) t → Steps p.tables e below (s₁.setTop (entryFrame m #[(.ref r0), (.ref r1)] 3)) t := fun t k => castTop (ef_10v21 m r0 r1) k
  have pre1 : ∀ t, Steps p.tables e below (s₁.setTop (mkF m 1 #[rv r0, rv r1, .unset] [(.ref r1)])) t → Steps p.tables e below (s₁.setTop (entryFrame m #[(.ref r0), (.ref r1)] 3)) t := by
    intro t kt
    refine pre0 _ ?_
    show Steps p.tables e below (s₁.setTop (mkF m 0 #[rv r0, rv r1, .unset] [])) _
    refine XS.aloadN X0.here hx rfl (hb hby d10_0) rfl rfl ?_
    exact kt
  obtain ⟨T2, X2, e2, st2⟩ := instY X0 hx hZ hown (hw _ (List.mem_of_getElem? (i := 74) rfl)) e0 (Ins.self E_r1) (g := (mkF m 1 #[rv r0, rv r1, .unset] [(.ref r1)])) rfl rfl (hb hby d10_1)
  have pre3 : ∀ t, Steps p.tables e below (T2.setTop (mkF m 8 #[rv r0, rv r1, .unset] [(.ref r1)])) t → Steps p.tables e below (s₁.setTop (entryFrame m #[(.ref r0), (.ref r1)] 3)) t := by
    intro t kt
    refine pre1 _ ?_
    show Steps p.tables e below (s₁.setTop (mkF m 1 #[rv r0, rv r1, .unset] [(.ref r1)])) _
    refine st2 _ ?_
    show Steps p.tables e below (T2.setTop (mkF m 4 #[rv r0, rv r1, .unset] [(.int (1 : Int32))])) _
    refine XS.ifNo X2.here hx rfl (hb hby d10_4) rfl ((if0 _ _).trans (feq (by decide)).1) ?_
    show Steps p.tables e below (T2.setTop (mkF m 7 #[rv r0, rv r1, .unset] [])) _
    refine XS.aloadN X2.here hx rfl (hb hby d10_7) rfl rfl ?_
    exact kt
  obtain ⟨T4, X4, e4, st4⟩ := castY X2 hx hZ hown (hw _ (List.mem_of_getElem? (i := 74) rfl)) e2 (Ins.self E_r1) (g := (mkF m 8 #[rv r0, rv r1, .unset] [(.ref r1)])) rfl rfl (hb hby d10_8)
  have pre5 : ∀ t, Steps p.tables e below (T4.setTop (mkF m 13 #[rv r0, rv r1, rv r1] [(.ref r0)])) t → Steps p.tables e below (s₁.setTop (entryFrame m #[(.ref r0), (.ref r1)] 3)) t := by
    intro t kt
    refine pre3 _ ?_
    show Steps p.tables e below (T2.setTop (mkF m 8 #[rv r0, rv r1, .unset] [(.ref r1)])) _
    refine st4 _ ?_
    show Steps p.tables e below (T4.setTop (mkF m 11 #[rv r0, rv r1, .unset] [(.ref r1)])) _
    refine XS.astoreN X4.here hx rfl (hb hby d10_11) rfl rfl (l' := #[rv r0, rv r1, rv r1]) rfl ?_
    show Steps p.tables e below (T4.setTop (mkF m 12 #[rv r0, rv r1, rv r1] [])) _
    refine XS.aloadN X4.here hx rfl (hb hby d10_12) rfl rfl ?_
    exact kt
  obtain ⟨T6, X6, e6, st6⟩ := getF X4 hx hZ hown (host := "") (Or.inl (hw _ (List.mem_of_getElem? (i := 47) rfl))) Via.refl e4 F_reason_r0 (g := (mkF m 13 #[rv r0, rv r1, rv r1] [(.ref r0)])) rfl rfl (hb hby d10_13)
  have pre7 : ∀ t, Steps p.tables e below (T6.setTop (mkF m 17 #[rv r0, rv r1, rv r1] [(.ref r1), (.ref w1)])) t → Steps p.tables e below (s₁.setTop (entryFrame m #[(.ref r0), (.ref r1)] 3)) t := by
    intro t kt
    refine pre5 _ ?_
    show Steps p.tables e below (T4.setTop (mkF m 13 #[rv r0, rv r1, rv r1] [(.ref r0)])) _
    refine st6 _ ?_
    show Steps p.tables e below (T6.setTop (mkF m 16 #[rv r0, rv r1, rv r1] [(.ref w1)])) _
    refine XS.aloadN X6.here hx rfl (hb hby d10_16) rfl rfl ?_
    exact kt
  obtain ⟨T8, X8, e8, st8⟩ := getF X6 hx hZ hown (host := "") (Or.inl (hw _ (List.mem_of_getElem? (i := 47) rfl))) Via.refl e6 F_reason_r1 (g := (mkF m 17 #[rv r0, rv r1, rv r1] [(.ref r1), (.ref w1)])) rfl rfl (hb hby d10_17)
  have pre9 : ∀ t, Steps p.tables e below (T8.setTop (mkF m 20 #[rv r0, rv r1, rv r1] [(.ref u1), (.ref w1)])) t → Steps p.tables e below (s₁.setTop (entryFrame m #[(.ref r0), (.ref r1)] 3)) t := by
    intro t kt
    refine pre7 _ ?_
    show Steps p.tables e below (T6.setTop (mkF m 17 #[rv r0, rv r1, rv r1] [(.ref r1), (.ref w1)])) _
    refine st8 _ ?_
    exact kt
  by_cases ha20 : w1 = u1
  · have pre10 : ∀ t, Steps p.tables e below (T8.setTop (mkF m 24 #[rv r0, rv r1, rv r1] [(.ref r0)])) t → Steps p.tables e below (s₁.setTop (entryFrame m #[(.ref r0), (.ref r1)] 3)) t := by
      intro t kt
      refine pre9 _ ?_
      show Steps p.tables e below (T8.setTop (mkF m 20 #[rv r0, rv r1, rv r1] [(.ref u1), (.ref w1)])) _
      refine Jvm.RoadKit.acmp (g := (mkF m 20 #[rv r0, rv r1, rv r1] [(.ref u1), (.ref w1)])) X8 hx rfl rfl rfl (pc0 := 20) (pc' := 23) (same := true) rfl (hb hby d10_20) rfl (decide_eq_true (congrArg Value.ref ha20)) (by decide) (by decide) ?_
      show Steps p.tables e below (T8.setTop (mkF m 23 #[rv r0, rv r1, rv r1] [])) _
      refine XS.aloadN X8.here hx rfl (hb hby d10_23) rfl rfl ?_
      exact kt
    obtain ⟨T11, X11, e11, st11⟩ := getF X8 hx hZ hown (host := "") (Or.inl (hw _ (List.mem_of_getElem? (i := 49) rfl))) Via.refl e8 F_certificateIndex_r0 (g := (mkF m 24 #[rv r0, rv r1, rv r1] [(.ref r0)])) rfl rfl (hb hby d10_24)
    have pre12 : ∀ t, Steps p.tables e below (T11.setTop (mkF m 28 #[rv r0, rv r1, rv r1] [(.ref r1), (.int w2)])) t → Steps p.tables e below (s₁.setTop (entryFrame m #[(.ref r0), (.ref r1)] 3)) t := by
      intro t kt
      refine pre10 _ ?_
      show Steps p.tables e below (T8.setTop (mkF m 24 #[rv r0, rv r1, rv r1] [(.ref r0)])) _
      refine st11 _ ?_
      show Steps p.tables e below (T11.setTop (mkF m 27 #[rv r0, rv r1, rv r1] [(.int w2)])) _
      refine XS.aloadN X11.here hx rfl (hb hby d10_27) rfl rfl ?_
      exact kt
    obtain ⟨T13, X13, e13, st13⟩ := getF X11 hx hZ hown (host := "") (Or.inl (hw _ (List.mem_of_getElem? (i := 49) rfl))) Via.refl e11 F_certificateIndex_r1 (g := (mkF m 28 #[rv r0, rv r1, rv r1] [(.ref r1), (.int w2)])) rfl rfl (hb hby d10_28)
    have pre14 : ∀ t, Steps p.tables e below (T13.setTop (mkF m 31 #[rv r0, rv r1, rv r1] [(.int u2), (.int w2)])) t → Steps p.tables e below (s₁.setTop (entryFrame m #[(.ref r0), (.ref r1)] 3)) t := by
      intro t kt
      refine pre12 _ ?_
      show Steps p.tables e below (T11.setTop (mkF m 28 #[rv r0, rv r1, rv r1] [(.ref r1), (.int w2)])) _
      refine st13 _ ?_
      exact kt
    by_cases hc31 : w2 = u2
    · have pre15 : ∀ t, Steps p.tables e below (T13.setTop (mkF m 35 #[rv r0, rv r1, rv r1] [(.ref r0)])) t → Steps p.tables e below (s₁.setTop (entryFrame m #[(.ref r0), (.ref r1)] 3)) t := by
        intro t kt
        refine pre14 _ ?_
        show Steps p.tables e below (T13.setTop (mkF m 31 #[rv r0, rv r1, rv r1] [(.int u2), (.int w2)])) _
        refine XS.icmpNo X13.here hx rfl (hb hby d10_31) rfl (teq hc31).2 ?_
        show Steps p.tables e below (T13.setTop (mkF m 34 #[rv r0, rv r1, rv r1] [])) _
        refine XS.aloadN X13.here hx rfl (hb hby d10_34) rfl rfl ?_
        exact kt
      obtain ⟨T16, X16, e16, st16⟩ := getF X13 hx hZ hown (host := "") (Or.inl (hw _ (List.mem_of_getElem? (i := 51) rfl))) Via.refl e13 F_detail_r0 (g := (mkF m 35 #[rv r0, rv r1, rv r1] [(.ref r0)])) rfl rfl (hb hby d10_35)
      have pre17 : ∀ t, Steps p.tables e below (T16.setTop (mkF m 39 #[rv r0, rv r1, rv r1] [(.ref r1), (.ref w3)])) t → Steps p.tables e below (s₁.setTop (entryFrame m #[(.ref r0), (.ref r1)] 3)) t := by
        intro t kt
        refine pre15 _ ?_
        show Steps p.tables e below (T13.setTop (mkF m 35 #[rv r0, rv r1, rv r1] [(.ref r0)])) _
        refine st16 _ ?_
        show Steps p.tables e below (T16.setTop (mkF m 38 #[rv r0, rv r1, rv r1] [(.ref w3)])) _
        refine XS.aloadN X16.here hx rfl (hb hby d10_38) rfl rfl ?_
        exact kt
      obtain ⟨T18, X18, e18, st18⟩ := getF X16 hx hZ hown (host := "") (Or.inl (hw _ (List.mem_of_getElem? (i := 51) rfl))) Via.refl e16 F_detail_r1 (g := (mkF m 39 #[rv r0, rv r1, rv r1] [(.ref r1), (.ref w3)])) rfl rfl (hb hby d10_39)
      have pre19 : ∀ t, Steps p.tables e below (T18.setTop (mkF m 42 #[rv r0, rv r1, rv r1] [(.ref u3), (.ref w3)])) t → Steps p.tables e below (s₁.setTop (entryFrame m #[(.ref r0), (.ref r1)] 3)) t := by
        intro t kt
        refine pre17 _ ?_
        show Steps p.tables e below (T16.setTop (mkF m 39 #[rv r0, rv r1, rv r1] [(.ref r1), (.ref w3)])) _
        refine st18 _ ?_
        exact kt
      obtain ⟨cq20, kq20, q20a, q20b, q20c⟩ := isOf hZ e18 E_w3
      obtain ⟨_, _, ⟨T20, L20, k20, n20⟩, -, X20, ⟨Lc20, hQ20, l20, y20, z20⟩, st20⟩ := X18.virtualBack hx (y := (⟨"java/lang/String", "equals", "(Ljava/lang/Object;)Z"⟩ : MethodName)) (z := (⟨"java/lang/String", "equals", "(Ljava/lang/Object;)Z"⟩ : MethodName)) hown (mvT hZ (hw _ (List.mem_of_getElem? (i := 78) rfl))) (mvT hZ (hw _ (List.mem_of_getElem? (i := 79) rfl))) (notFace_of_selects (args := #[]) (mvT hZ (hw _ (List.mem_of_getElem? (i := 81) rfl)))) (mvT hZ (hw _ (List.mem_of_getElem? (i := 81) rfl))) (mvT hZ (hw _ (List.mem_of_getElem? (i := 80) rfl))) (by decide) (backOf (W := 0) (rm15v21 l Z a0 hw [] w3 u3 y0 y1 k1 k2 s0 s1 t0 cs h0 n0 (Nat.le_trans Z0 (Keep.refl h0 []).1) (O0.keep (Keep.refl h0 []) all0) S_cs hcs F_value_w3 F_coder_w3 E_w3 V_y0 F_value_u3 F_coder_u3 E_u3 V_y1 hne) hZ (hw _ (List.mem_of_getElem? (i := 82) rfl)) (hw _ (List.mem_of_getElem? (i := 6) rfl)) (by decide) (by decide)) q20a q20c (g := (mkF m 42 #[rv r0, rv r1, rv r1] [(.ref u3), (.ref w3)])) rfl (by rw [hml]; rfl) (Steps.refl _) (argsL := [(.ref u3)]) (rest := []) (lenOf pd15 rfl) rfl (by show 2 * 0 + _ ≤ _; exact Nat.le_of_eq rfl) (hb hby d10_42) (fun _ _ => ⟨rfl, e18, (by decide : 0 + 0 ≤ _), (by decide : 0 + 0 ≤ _)⟩)
      dsimp only [Pt.U, Pt.locs, Pt.cells, Pt.slots] at X20 l20 y20 z20 st20 hQ20
      subst l20 y20 z20
      obtain ⟨rfl, N20q, hh20⟩ := hQ20
      have N20 := Fr.app N0 N20q
      have pre21 : ∀ t, Steps p.tables e below (T20.setTop (mkF m 45 #[rv r0, rv r1, rv r1] [(.int (own_se21 s0 s1 t0))])) t → Steps p.tables e below (s₁.setTop (entryFrame m #[(.ref r0), (.ref r1)] 3)) t := by
        intro t kt
        refine pre19 _ ?_
        show Steps p.tables e below (T18.setTop (mkF m 42 #[rv r0, rv r1, rv r1] [(.ref u3), (.ref w3)])) _
        refine st20.trans ?_
        exact kt
      by_cases hc45 : (own_se21 s0 s1 t0) = (0 : Int32)
      · have pre22 : ∀ t, Steps p.tables e below (T20.setTop (mkF m 53 #[rv r0, rv r1, rv r1] [(.int (0 : Int32))])) t → Steps p.tables e below (s₁.setTop (entryFrame m #[(.ref r0), (.ref r1)] 3)) t := by
          intro t kt
          refine pre21 _ ?_
          show Steps p.tables e below (T20.setTop (mkF m 45 #[rv r0, rv r1, rv r1] [(.int (own_se21 s0 s1 t0))])) _
          refine XS.ifYes X20.here hx rfl (pc0 := 45) (pc' := 52) rfl (hb hby d10_45) rfl ((if0 _ _).trans (teq hc45).1) (by decide) (by decide) ?_
          show Steps p.tables e below (T20.setTop (mkF m 52 #[rv r0, rv r1, rv r1] [])) _
          refine XS.iconst X20.here hx rfl (hb hby d10_52) ?_
          exact kt
        obtain ⟨fs, hr, hrun, hended, hW, hsame⟩ := X20.leave (v := some (.int (0 : Int32))) (fun h => by rw [Bd.returns] at h; cases h)
        refine ⟨_, _, pre22 _ ?_, hrun, hended, _, _, rfl, ?_, ⟨_, rfl⟩, hW, hsame.mono (by decide) (by decide)⟩
        · show Steps p.tables e below (T20.setTop (mkF m 53 #[rv r0, rv r1, rv r1] [(.int (0 : Int32))])) _
          exact retN X20 hx (t := .boolean) Bd.returns (by simp) (hb hby d10_53) hr
        · show Q10v21 Z r0 r1 w1 w2 w3 u1 u2 u3 y0 y1 k1 k2 s0 s1 t0 cs h0 n0 _ T20.heap _
          rw [hh20]
          exact ⟨congrArg (fun z => some (Value.int z)) ((if_pos ha20).trans ((if_pos hc31).trans ((if_pos hc45).trans rfl))).symm, N20, rfl⟩
      · have pre23 : ∀ t, Steps p.tables e below (T20.setTop (mkF m 53 #[rv r0, rv r1, rv r1] [(.int (1 : Int32))])) t → Steps p.tables e below (s₁.setTop (entryFrame m #[(.ref r0), (.ref r1)] 3)) t := by
          intro t kt
          refine pre21 _ ?_
          show Steps p.tables e below (T20.setTop (mkF m 45 #[rv r0, rv r1, rv r1] [(.int (own_se21 s0 s1 t0))])) _
          refine XS.ifNo X20.here hx rfl (hb hby d10_45) rfl ((if0 _ _).trans (feq hc45).1) ?_
          show Steps p.tables e below (T20.setTop (mkF m 48 #[rv r0, rv r1, rv r1] [])) _
          refine XS.iconst X20.here hx rfl (hb hby d10_48) ?_
          show Steps p.tables e below (T20.setTop (mkF m 49 #[rv r0, rv r1, rv r1] [(.int (1 : Int32))])) _
          refine XS.goto X20.here hx rfl (pc0 := 49) (pc' := 53) rfl (hb hby d10_49) (by decide) (by decide) ?_
          exact kt
        obtain ⟨fs, hr, hrun, hended, hW, hsame⟩ := X20.leave (v := some (.int (1 : Int32))) (fun h => by rw [Bd.returns] at h; cases h)
        refine ⟨_, _, pre23 _ ?_, hrun, hended, _, _, rfl, ?_, ⟨_, rfl⟩, hW, hsame.mono (by decide) (by decide)⟩
        · show Steps p.tables e below (T20.setTop (mkF m 53 #[rv r0, rv r1, rv r1] [(.int (1 : Int32))])) _
          exact retN X20 hx (t := .boolean) Bd.returns (by simp) (hb hby d10_53) hr
        · show Q10v21 Z r0 r1 w1 w2 w3 u1 u2 u3 y0 y1 k1 k2 s0 s1 t0 cs h0 n0 _ T20.heap _
          rw [hh20]
          exact ⟨congrArg (fun z => some (Value.int z)) ((if_pos ha20).trans ((if_pos hc31).trans ((if_neg hc45).trans rfl))).symm, N20, rfl⟩
    · have pre24 : ∀ t, Steps p.tables e below (T13.setTop (mkF m 53 #[rv r0, rv r1, rv r1] [(.int (0 : Int32))])) t → Steps p.tables e below (s₁.setTop (entryFrame m #[(.ref r0), (.ref r1)] 3)) t := by
        intro t kt
        refine pre14 _ ?_
        show Steps p.tables e below (T13.setTop (mkF m 31 #[rv r0, rv r1, rv r1] [(.int u2), (.int w2)])) _
        refine XS.icmpYes X13.here hx rfl (pc0 := 31) (pc' := 52) rfl (hb hby d10_31) rfl (feq hc31).2 (by decide) (by decide) ?_
        show Steps p.tables e below (T13.setTop (mkF m 52 #[rv r0, rv r1, rv r1] [])) _
        refine XS.iconst X13.here hx rfl (hb hby d10_52) ?_
        exact kt
      obtain ⟨fs, hr, hrun, hended, hW, hsame⟩ := X13.leave (v := some (.int (0 : Int32))) (fun h => by rw [Bd.returns] at h; cases h)
      refine ⟨_, _, pre24 _ ?_, hrun, hended, _, _, rfl, ?_, ⟨_, rfl⟩, hW, hsame.mono (by decide) (by decide)⟩
      · show Steps p.tables e below (T13.setTop (mkF m 53 #[rv r0, rv r1, rv r1] [(.int (0 : Int32))])) _
        exact retN X13 hx (t := .boolean) Bd.returns (by simp) (hb hby d10_53) hr
      · show Q10v21 Z r0 r1 w1 w2 w3 u1 u2 u3 y0 y1 k1 k2 s0 s1 t0 cs h0 n0 _ T13.heap _
        rw [e13]
        exact ⟨congrArg (fun z => some (Value.int z)) ((if_pos ha20).trans ((if_neg hc31).trans rfl)).symm, N0, rfl⟩
  · have pre25 : ∀ t, Steps p.tables e below (T8.setTop (mkF m 53 #[rv r0, rv r1, rv r1] [(.int (0 : Int32))])) t → Steps p.tables e below (s₁.setTop (entryFrame m #[(.ref r0), (.ref r1)] 3)) t := by
      intro t kt
      refine pre9 _ ?_
      show Steps p.tables e below (T8.setTop (mkF m 20 #[rv r0, rv r1, rv r1] [(.ref u1), (.ref w1)])) _
      refine Jvm.RoadKit.acmp (g := (mkF m 20 #[rv r0, rv r1, rv r1] [(.ref u1), (.ref w1)])) X8 hx rfl rfl rfl (pc0 := 20) (pc' := 52) (same := false) rfl (hb hby d10_20) rfl (decide_eq_false fun q => ha20 (Value.ref.inj q)) (by decide) (by decide) ?_
      show Steps p.tables e below (T8.setTop (mkF m 52 #[rv r0, rv r1, rv r1] [])) _
      refine XS.iconst X8.here hx rfl (hb hby d10_52) ?_
      exact kt
    obtain ⟨fs, hr, hrun, hended, hW, hsame⟩ := X8.leave (v := some (.int (0 : Int32))) (fun h => by rw [Bd.returns] at h; cases h)
    refine ⟨_, _, pre25 _ ?_, hrun, hended, _, _, rfl, ?_, ⟨_, rfl⟩, hW, hsame.mono (by decide) (by decide)⟩
    · show Steps p.tables e below (T8.setTop (mkF m 53 #[rv r0, rv r1, rv r1] [(.int (0 : Int32))])) _
      exact retN X8 hx (t := .boolean) Bd.returns (by simp) (hb hby d10_53) hr
    · show Q10v21 Z r0 r1 w1 w2 w3 u1 u2 u3 y0 y1 k1 k2 s0 s1 t0 cs h0 n0 _ T8.heap _
      rw [e8]
      exact ⟨congrArg (fun z => some (Value.int z)) ((if_neg ha20).trans rfl).symm, N0, rfl⟩
def own_de22 (w1 : Addr) (w2 : Int32) (u1 : Addr) (u2 : Int32) (s0 : Int32) (s1 : Int32) (t0 : Int32) (t1 : Int32) : Int32 := (if w1 = u1 then (if w2 = u2 then (if (own_se22 s0 s1 t0 t1) = (0 : Int32) then (0 : Int32) else (1 : Int32)) else (0 : Int32)) else (0 : Int32))

theorem ef_10v22 (m : MethodId) (x0 : Addr) (x1 : Addr) : entryFrame m #[(.ref x0), (.ref x1)] 3 = mkF m 0 #[.val (.ref x0), .val (.ref x1), .unset] [] := by first | (simp [entryFrame, mkF, argsToLocals, Value.category]; done) | rfl
def Q10v22 (Z : State) (r0 : Addr) (r1 : Addr) (w1 : Addr) (w2 : Int32) (w3 : Addr) (u1 : Addr) (u2 : Int32) (u3 : Addr) (y0 : Addr) (y1 : Addr) (k1 : ClassId) (k2 : ClassId) (s0 : Int32) (s1 : Int32) (t0 : Int32) (t1 : Int32) (cs : Int32) (h0 : Heap) (n0 : Nat) (v : Option Value) (h : Heap) (L : List Loc) : Prop := v = some (.int (own_de22 w1 w2 u1 u2 s0 s1 t0 t1)) ∧ Fr n0 L ∧ h = h0
set_option maxRecDepth 65536 in
set_option maxHeartbeats 40000000 in
theorem rm10v22 (l : Launch) (Z : State) (a0 : Array Value) (hw : ∀ d ∈ tables_1, d.before a0 Z = true) (ws : List Jvm.Cond) (r0 : Addr) (r1 : Addr) (w1 : Addr) (w2 : Int32) (w3 : Addr) (u1 : Addr) (u2 : Int32) (u3 : Addr) (y0 : Addr) (y1 : Addr) (k1 : ClassId) (k2 : ClassId) (s0 : Int32) (s1 : Int32) (t0 : Int32) (t1 : Int32) (cs : Int32) (h0 : Heap) (n0 : Nat) (Z0 : n0 ≤ h0.size) (O0 : Old Z n0 h0) (S_cs : Sta Z Z.heap "java/lang/String" "COMPACT_STRINGS" "Z" (.int cs)) (hcs : ¬ (cs = (0 : Int32))) (F_reason_r0 : Fld Z h0 r0 "com/example/fair_witness/fairwitness/verifier/DecodingFailure" "reason" "Lcom/example/fair_witness/fairwitness/verifier/Reason;" (.ref w1)) (F_certificateIndex_r0 : Fld Z h0 r0 "com/example/fair_witness/fairwitness/verifier/DecodingFailure" "certificateIndex" "I" (.int w2)) (F_detail_r0 : Fld Z h0 r0 "com/example/fair_witness/fairwitness/verifier/DecodingFailure" "detail" "Ljava/lang/String;" (.ref w3)) (E_r0 : Exa Z h0 r0 "com/example/fair_witness/fairwitness/verifier/DecodingFailure") (F_reason_r1 : Fld Z h0 r1 "com/example/fair_witness/fairwitness/verifier/DecodingFailure" "reason" "Lcom/example/fair_witness/fairwitness/verifier/Reason;" (.ref u1)) (F_certificateIndex_r1 : Fld Z h0 r1 "com/example/fair_witness/fairwitness/verifier/DecodingFailure" "certificateIndex" "I" (.int u2)) (F_detail_r1 : Fld Z h0 r1 "com/example/fair_witness/fairwitness/verifier/DecodingFailure" "detail" "Ljava/lang/String;" (.ref u3)) (E_r1 : Exa Z h0 r1 "com/example/fair_witness/fairwitness/verifier/DecodingFailure") (F_value_w3 : Fld Z h0 w3 "java/lang/String" "value" "[B" (.ref y0)) (F_coder_w3 : Fld Z h0 w3 "java/lang/String" "coder" "B" (.int (0 : Int32))) (E_w3 : Exa Z h0 w3 "java/lang/String") (V_y0 : Arv Z h0 y0 k1 .byte (2 : Int32) [(.int s0), (.int s1)] (.int (0 : Int32))) (F_value_u3 : Fld Z h0 u3 "java/lang/String" "value" "[B" (.ref y1)) (F_coder_u3 : Fld Z h0 u3 "java/lang/String" "coder" "B" (.int (0 : Int32))) (E_u3 : Exa Z h0 u3 "java/lang/String") (V_y1 : Arv Z h0 y1 k2 .byte (2 : Int32) [(.int t0), (.int t1)] (.int (0 : Int32))) (hne : w3 ≠ u3) :
    MetFree l (⟨"com/example/fair_witness/fairwitness/verifier/DecodingFailure", "equals", "(Ljava/lang/Object;)Z"⟩ : MethodName) (head1 (Jvm.Cond.code (⟨"com/example/fair_witness/fairwitness/verifier/DecodingFailure", "equals", "(Ljava/lang/Object;)Z"⟩ : MethodName) prog_25_method_5_code 3 (some .boolean) :: ws) ({ frames := 2, cells := 0, slots := 0, locals := 28 } : Room)) (fun a U => a = #[(.ref r0), (.ref r1)] ∧ Z.Warmed39 U.vm ∧ U.heap = h0) (fun _ _ _ _ _ => True) (fun _ U o U' => ∃ v L, o = .returned v ∧ Q10v22 Z r0 r1 w1 w2 w3 u1 u2 u3 y0 y1 k1 k2 s0 s1 t0 t1 cs h0 n0 v U'.heap L ∧ FrameEnd U o U' L ({ frames := 2, cells := 0, slots := 0, locals := 28 } : Room).cells ({ frames := 2, cells := 0, slots := 0, locals := 28 } : Room).slots) := by
  refine MetFree.of_bodySF (plainFor_of_name pn13) hisR ?_
  intro p e s m args below meth c s₁ Bd hml0 hP hK
  obtain ⟨rfl, hZ, hh⟩ := hP
  have hx := Bd.exec
  have hby := Bd.bytes
  have hml : c.maxLocals = 3 := hml0
  have hown : s.vm.findClass "com/example/fair_witness/fairwitness/verifier/DecodingFailure" = some m.cls := findClass_of_methodNamed Bd.named
  have hnm := (name_of_methodNamed Bd.named Bd.method).1
  have X0 : Stand p l e ({ frames := 2, cells := 0, slots := 0, locals := 28 } : Room) s m #[(.ref r0), (.ref r1)] below meth c s₁ [] 0 0 := Stand.of_body Bd
  have e0 : s₁.heap = h0 := by rw [← hh, Bd.state]; rfl
  have N0 := Fr.nil n0
  have pre0 : ∀ t, Steps p.tables e below (s₁.setTop (mkF m 0 #[rv r0, rv r1, .unset] [])) t → Steps p.tables e below (s₁.setTop (entryFrame m #[(.ref r0), (.ref r1)] 3)) t := fun t k => castTop (ef_10v22 m r0 r1) k
  have pre1 : ∀ t, Steps p.tables e below (s₁.setTop (mkF m 1 #[rv r0, rv r1, .unset] [(.ref r1)])) t → Steps p.tables e below (s₁.setTop (entryFrame m #[(.ref r0), (.ref r1)] 3)) t := by
    intro t kt
    refine pre0 _ ?_
    show Steps p.tables e below (s₁.setTop (mkF m 0 #[rv r0, rv r1, .unset] [])) _
    refine XS.aloadN X0.here hx rfl (hb hby d10_0) rfl rfl ?_
    exact kt
  obtain ⟨T2, X2, e2, st2⟩ := instY X0 hx hZ hown (hw _ (List.mem_of_getElem? (i := 74) rfl)) e0 (Ins.self E_r1) (g := (mkF m 1 #[rv r0, rv r1, .unset] [(.ref r1)])) rfl rfl (hb hby d10_1)
  have pre3 : ∀ t, Steps p.tables e below (T2.setTop (mkF m 8 #[rv r0, rv r1, .unset] [(.ref r1)])) t → Steps p.tables e below (s₁.setTop (entryFrame m #[(.ref r0), (.ref r1)] 3)) t := by
    intro t kt
    refine pre1 _ ?_
    show Steps p.tables e below (s₁.setTop (mkF m 1 #[rv r0, rv r1, .unset] [(.ref r1)])) _
    refine st2 _ ?_
    show Steps p.tables e below (T2.setTop (mkF m 4 #[rv r0, rv r1, .unset] [(.int (1 : Int32))])) _
    refine XS.ifNo X2.here hx rfl (hb hby d10_4) rfl ((if0 _ _).trans (feq (by decide)).1) ?_
    show Steps p.tables e below (T2.setTop (mkF m 7 #[rv r0, rv r1, .unset] [])) _
    refine XS.aloadN X2.here hx rfl (hb hby d10_7) rfl rfl ?_
    exact kt
  obtain ⟨T4, X4, e4, st4⟩ := castY X2 hx hZ hown (hw _ (List.mem_of_getElem? (i := 74) rfl)) e2 (Ins.self E_r1) (g := (mkF m 8 #[rv r0, rv r1, .unset] [(.ref r1)])) rfl rfl (hb hby d10_8)
  have pre5 : ∀ t, Steps p.tables e below (T4.setTop (mkF m 13 #[rv r0, rv r1, rv r1] [(.ref r0)])) t → Steps p.tables e below (s₁.setTop (entryFrame m #[(.ref r0), (.ref r1)] 3)) t := by
    intro t kt
    refine pre3 _ ?_
    show Steps p.tables e below (T2.setTop (mkF m 8 #[rv r0, rv r1, .unset] [(.ref r1)])) _
    refine st4 _ ?_
    show Steps p.tables e below (T4.setTop (mkF m 11 #[rv r0, rv r1, .unset] [(.ref r1)])) _
    refine XS.astoreN X4.here hx rfl (hb hby d10_11) rfl rfl (l' := #[rv r0, rv r1, rv r1]) rfl ?_
    show Steps p.tables e below (T4.setTop (mkF m 12 #[rv r0, rv r1, rv r1] [])) _
    refine XS.aloadN X4.here hx rfl (hb hby d10_12) rfl rfl ?_
    exact kt
  obtain ⟨T6, X6, e6, st6⟩ := getF X4 hx hZ hown (host := "") (Or.inl (hw _ (List.mem_of_getElem? (i := 47) rfl))) Via.refl e4 F_reason_r0 (g := (mkF m 13 #[rv r0, rv r1, rv r1] [(.ref r0)])) rfl rfl (hb hby d10_13)
  have pre7 : ∀ t, Steps p.tables e below (T6.setTop (mkF m 17 #[rv r0, rv r1, rv r1] [(.ref r1), (.ref w1)])) t → Steps p.tables e below (s₁.setTop (entryFrame m #[(.ref r0), (.ref r1)] 3)) t := by
    intro t kt
    refine pre5 _ ?_
    show Steps p.tables e below (T4.setTop (mkF m 13 #[rv r0, rv r1, rv r1] [(.ref r0)])) _
    refine st6 _ ?_
    show Steps p.tables e below (T6.setTop (mkF m 16 #[rv r0, rv r1, rv r1] [(.ref w1)])) _
    refine XS.aloadN X6.here hx rfl (hb hby d10_16) rfl rfl ?_
    exact kt
  obtain ⟨T8, X8, e8, st8⟩ := getF X6 hx hZ hown (host := "") (Or.inl (hw _ (List.mem_of_getElem? (i := 47) rfl))) Via.refl e6 F_reason_r1 (g := (mkF m 17 #[rv r0, rv r1, rv r1] [(.ref r1), (.ref w1)])) rfl rfl (hb hby d10_17)
  have pre9 : ∀ t, Steps p.tables e below (T8.setTop (mkF m 20 #[rv r0, rv r1, rv r1] [(.ref u1), (.ref w1)])) t → Steps p.tables e below (s₁.setTop (entryFrame m #[(.ref r0), (.ref r1)] 3)) t := by
    intro t kt
    refine pre7 _ ?_
    show Steps p.tables e below (T6.setTop (mkF m 17 #[rv r0, rv r1, rv r1] [(.ref r1), (.ref w1)])) _
    refine st8 _ ?_
    exact kt
  by_cases ha20 : w1 = u1
  · have pre10 : ∀ t, Steps p.tables e below (T8.setTop (mkF m 24 #[rv r0, rv r1, rv r1] [(.ref r0)])) t → Steps p.tables e below (s₁.setTop (entryFrame m #[(.ref r0), (.ref r1)] 3)) t := by
      intro t kt
      refine pre9 _ ?_
      show Steps p.tables e below (T8.setTop (mkF m 20 #[rv r0, rv r1, rv r1] [(.ref u1), (.ref w1)])) _
      refine Jvm.RoadKit.acmp (g := (mkF m 20 #[rv r0, rv r1, rv r1] [(.ref u1), (.ref w1)])) X8 hx rfl rfl rfl (pc0 := 20) (pc' := 23) (same := true) rfl (hb hby d10_20) rfl (decide_eq_true (congrArg Value.ref ha20)) (by decide) (by decide) ?_
      show Steps p.tables e below (T8.setTop (mkF m 23 #[rv r0, rv r1, rv r1] [])) _
      refine XS.aloadN X8.here hx rfl (hb hby d10_23) rfl rfl ?_
      exact kt
    obtain ⟨T11, X11, e11, st11⟩ := getF X8 hx hZ hown (host := "") (Or.inl (hw _ (List.mem_of_getElem? (i := 49) rfl))) Via.refl e8 F_certificateIndex_r0 (g := (mkF m 24 #[rv r0, rv r1, rv r1] [(.ref r0)])) rfl rfl (hb hby d10_24)
    have pre12 : ∀ t, Steps p.tables e below (T11.setTop (mkF m 28 #[rv r0, rv r1, rv r1] [(.ref r1), (.int w2)])) t → Steps p.tables e below (s₁.setTop (entryFrame m #[(.ref r0), (.ref r1)] 3)) t := by
      intro t kt
      refine pre10 _ ?_
      show Steps p.tables e below (T8.setTop (mkF m 24 #[rv r0, rv r1, rv r1] [(.ref r0)])) _
      refine st11 _ ?_
      show Steps p.tables e below (T11.setTop (mkF m 27 #[rv r0, rv r1, rv r1] [(.int w2)])) _
      refine XS.aloadN X11.here hx rfl (hb hby d10_27) rfl rfl ?_
      exact kt
    obtain ⟨T13, X13, e13, st13⟩ := getF X11 hx hZ hown (host := "") (Or.inl (hw _ (List.mem_of_getElem? (i := 49) rfl))) Via.refl e11 F_certificateIndex_r1 (g := (mkF m 28 #[rv r0, rv r1, rv r1] [(.ref r1), (.int w2)])) rfl rfl (hb hby d10_28)
    have pre14 : ∀ t, Steps p.tables e below (T13.setTop (mkF m 31 #[rv r0, rv r1, rv r1] [(.int u2), (.int w2)])) t → Steps p.tables e below (s₁.setTop (entryFrame m #[(.ref r0), (.ref r1)] 3)) t := by
      intro t kt
      refine pre12 _ ?_
      show Steps p.tables e below (T11.setTop (mkF m 28 #[rv r0, rv r1, rv r1] [(.ref r1), (.int w2)])) _
      refine st13 _ ?_
      exact kt
    by_cases hc31 : w2 = u2
    · have pre15 : ∀ t, Steps p.tables e below (T13.setTop (mkF m 35 #[rv r0, rv r1, rv r1] [(.ref r0)])) t → Steps p.tables e below (s₁.setTop (entryFrame m #[(.ref r0), (.ref r1)] 3)) t := by
        intro t kt
        refine pre14 _ ?_
        show Steps p.tables e below (T13.setTop (mkF m 31 #[rv r0, rv r1, rv r1] [(.int u2), (.int w2)])) _
        refine XS.icmpNo X13.here hx rfl (hb hby d10_31) rfl (teq hc31).2 ?_
        show Steps p.tables e below (T13.setTop (mkF m 34 #[rv r0, rv r1, rv r1] [])) _
        refine XS.aloadN X13.here hx rfl (hb hby d10_34) rfl rfl ?_
        exact kt
      obtain ⟨T16, X16, e16, st16⟩ := getF X13 hx hZ hown (host := "") (Or.inl (hw _ (List.mem_of_getElem? (i := 51) rfl))) Via.refl e13 F_detail_r0 (g := (mkF m 35 #[rv r0, rv r1, rv r1] [(.ref r0)])) rfl rfl (hb hby d10_35)
      have pre17 : ∀ t, Steps p.tables e below (T16.setTop (mkF m 39 #[rv r0, rv r1, rv r1] [(.ref r1), (.ref w3)])) t → Steps p.tables e below (s₁.setTop (entryFrame m #[(.ref r0), (.ref r1)] 3)) t := by
        intro t kt
        refine pre15 _ ?_
        show Steps p.tables e below (T13.setTop (mkF m 35 #[rv r0, rv r1, rv r1] [(.ref r0)])) _
        refine st16 _ ?_
        show Steps p.tables e below (T16.setTop (mkF m 38 #[rv r0, rv r1, rv r1] [(.ref w3)])) _
        refine XS.aloadN X16.here hx rfl (hb hby d10_38) rfl rfl ?_
        exact kt
      obtain ⟨T18, X18, e18, st18⟩ := getF X16 hx hZ hown (host := "") (Or.inl (hw _ (List.mem_of_getElem? (i := 51) rfl))) Via.refl e16 F_detail_r1 (g := (mkF m 39 #[rv r0, rv r1, rv r1] [(.ref r1), (.ref w3)])) rfl rfl (hb hby d10_39)
      have pre19 : ∀ t, Steps p.tables e below (T18.setTop (mkF m 42 #[rv r0, rv r1, rv r1] [(.ref u3), (.ref w3)])) t → Steps p.tables e below (s₁.setTop (entryFrame m #[(.ref r0), (.ref r1)] 3)) t := by
        intro t kt
        refine pre17 _ ?_
        show Steps p.tables e below (T16.setTop (mkF m 39 #[rv r0, rv r1, rv r1] [(.ref r1), (.ref w3)])) _
        refine st18 _ ?_
        exact kt
      obtain ⟨cq20, kq20, q20a, q20b, q20c⟩ := isOf hZ e18 E_w3
      obtain ⟨_, _, ⟨T20, L20, k20, n20⟩, -, X20, ⟨Lc20, hQ20, l20, y20, z20⟩, st20⟩ := X18.virtualBack hx (y := (⟨"java/lang/String", "equals", "(Ljava/lang/Object;)Z"⟩ : MethodName)) (z := (⟨"java/lang/String", "equals", "(Ljava/lang/Object;)Z"⟩ : MethodName)) hown (mvT hZ (hw _ (List.mem_of_getElem? (i := 78) rfl))) (mvT hZ (hw _ (List.mem_of_getElem? (i := 79) rfl))) (notFace_of_selects (args := #[]) (mvT hZ (hw _ (List.mem_of_getElem? (i := 81) rfl)))) (mvT hZ (hw _ (List.mem_of_getElem? (i := 81) rfl))) (mvT hZ (hw _ (List.mem_of_getElem? (i := 80) rfl))) (by decide) (backOf (W := 0) (rm15v22 l Z a0 hw [] w3 u3 y0 y1 k1 k2 s0 s1 t0 t1 cs h0 n0 (Nat.le_trans Z0 (Keep.refl h0 []).1) (O0.keep (Keep.refl h0 []) all0) S_cs hcs F_value_w3 F_coder_w3 E_w3 V_y0 F_value_u3 F_coder_u3 E_u3 V_y1 hne) hZ (hw _ (List.mem_of_getElem? (i := 82) rfl)) (hw _ (List.mem_of_getElem? (i := 6) rfl)) (by decide) (by decide)) q20a q20c (g := (mkF m 42 #[rv r0, rv r1, rv r1] [(.ref u3), (.ref w3)])) rfl (by rw [hml]; rfl) (Steps.refl _) (argsL := [(.ref u3)]) (rest := []) (lenOf pd15 rfl) rfl (by show 2 * 0 + _ ≤ _; exact Nat.le_of_eq rfl) (hb hby d10_42) (fun _ _ => ⟨rfl, e18, (by decide : 0 + 0 ≤ _), (by decide : 0 + 0 ≤ _)⟩)
      dsimp only [Pt.U, Pt.locs, Pt.cells, Pt.slots] at X20 l20 y20 z20 st20 hQ20
      subst l20 y20 z20
      obtain ⟨rfl, N20q, hh20⟩ := hQ20
      have N20 := Fr.app N0 N20q
      have pre21 : ∀ t, Steps p.tables e below (T20.setTop (mkF m 45 #[rv r0, rv r1, rv r1] [(.int (own_se22 s0 s1 t0 t1))])) t → Steps p.tables e below (s₁.setTop (entryFrame m #[(.ref r0), (.ref r1)] 3)) t := by
        intro t kt
        refine pre19 _ ?_
        show Steps p.tables e below (T18.setTop (mkF m 42 #[rv r0, rv r1, rv r1] [(.ref u3), (.ref w3)])) _
        refine st20.trans ?_
        exact kt
      by_cases hc45 : (own_se22 s0 s1 t0 t1) = (0 : Int32)
      · have pre22 : ∀ t, Steps p.tables e below (T20.setTop (mkF m 53 #[rv r0, rv r1, rv r1] [(.int (0 : Int32))])) t → Steps p.tables e below (s₁.setTop (entryFrame m #[(.ref r0), (.ref r1)] 3)) t := by
          intro t kt
          refine pre21 _ ?_
          show Steps p.tables e below (T20.setTop (mkF m 45 #[rv r0, rv r1, rv r1] [(.int (own_se22 s0 s1 t0 t1))])) _
          refine XS.ifYes X20.here hx rfl (pc0 := 45) (pc' := 52) rfl (hb hby d10_45) rfl ((if0 _ _).trans (teq hc45).1) (by decide) (by decide) ?_
          show Steps p.tables e below (T20.setTop (mkF m 52 #[rv r0, rv r1, rv r1] [])) _
          refine XS.iconst X20.here hx rfl (hb hby d10_52) ?_
          exact kt
        obtain ⟨fs, hr, hrun, hended, hW, hsame⟩ := X20.leave (v := some (.int (0 : Int32))) (fun h => by rw [Bd.returns] at h; cases h)
        refine ⟨_, _, pre22 _ ?_, hrun, hended, _, _, rfl, ?_, ⟨_, rfl⟩, hW, hsame.mono (by decide) (by decide)⟩
        · show Steps p.tables e below (T20.setTop (mkF m 53 #[rv r0, rv r1, rv r1] [(.int (0 : Int32))])) _
          exact retN X20 hx (t := .boolean) Bd.returns (by simp) (hb hby d10_53) hr
        · show Q10v22 Z r0 r1 w1 w2 w3 u1 u2 u3 y0 y1 k1 k2 s0 s1 t0 t1 cs h0 n0 _ T20.heap _
          rw [hh20]
          exact ⟨congrArg (fun z => some (Value.int z)) ((if_pos ha20).trans ((if_pos hc31).trans ((if_pos hc45).trans rfl))).symm, N20, rfl⟩
      · have pre23 : ∀ t, Steps p.tables e below (T20.setTop (mkF m 53 #[rv r0, rv r1, rv r1] [(.int (1 : Int32))])) t → Steps p.tables e below (s₁.setTop (entryFrame m #[(.ref r0), (.ref r1)] 3)) t := by
          intro t kt
          refine pre21 _ ?_
          show Steps p.tables e below (T20.setTop (mkF m 45 #[rv r0, rv r1, rv r1] [(.int (own_se22 s0 s1 t0 t1))])) _
          refine XS.ifNo X20.here hx rfl (hb hby d10_45) rfl ((if0 _ _).trans (feq hc45).1) ?_
          show Steps p.tables e below (T20.setTop (mkF m 48 #[rv r0, rv r1, rv r1] [])) _
          refine XS.iconst X20.here hx rfl (hb hby d10_48) ?_
          show Steps p.tables e below (T20.setTop (mkF m 49 #[rv r0, rv r1, rv r1] [(.int (1 : Int32))])) _
          refine XS.goto X20.here hx rfl (pc0 := 49) (pc' := 53) rfl (hb hby d10_49) (by decide) (by decide) ?_
          exact kt
        obtain ⟨fs, hr, hrun, hended, hW, hsame⟩ := X20.leave (v := some (.int (1 : Int32))) (fun h => by rw [Bd.returns] at h; cases h)
        refine ⟨_, _, pre23 _ ?_, hrun, hended, _, _, rfl, ?_, ⟨_, rfl⟩, hW, hsame.mono (by decide) (by decide)⟩
        · show Steps p.tables e below (T20.setTop (mkF m 53 #[rv r0, rv r1, rv r1] [(.int (1 : Int32))])) _
          exact retN X20 hx (t := .boolean) Bd.returns (by simp) (hb hby d10_53) hr
        · show Q10v22 Z r0 r1 w1 w2 w3 u1 u2 u3 y0 y1 k1 k2 s0 s1 t0 t1 cs h0 n0 _ T20.heap _
          rw [hh20]
          exact ⟨congrArg (fun z => some (Value.int z)) ((if_pos ha20).trans ((if_pos hc31).trans ((if_neg hc45).trans rfl))).symm, N20, rfl⟩
    · have pre24 : ∀ t, Steps p.tables e below (T13.setTop (mkF m 53 #[rv r0, rv r1, rv r1] [(.int (0 : Int32))])) t → Steps p.tables e below (s₁.setTop (entryFrame m #[(.ref r0), (.ref r1)] 3)) t := by
        intro t kt
        refine pre14 _ ?_
        show Steps p.tables e below (T13.setTop (mkF m 31 #[rv r0, rv r1, rv r1] [(.int u2), (.int w2)])) _
        refine XS.icmpYes X13.here hx rfl (pc0 := 31) (pc' := 52) rfl (hb hby d10_31) rfl (feq hc31).2 (by decide) (by decide) ?_
        show Steps p.tables e below (T13.setTop (mkF m 52 #[rv r0, rv r1, rv r1] [])) _
        refine XS.iconst X13.here hx rfl (hb hby d10_52) ?_
        exact kt
      obtain ⟨fs, hr, hrun, hended, hW, hsame⟩ := X13.leave (v := some (.int (0 : Int32))) (fun h => by rw [Bd.returns] at h; cases h)
      refine ⟨_, _, pre24 _ ?_, hrun, hended, _, _, rfl, ?_, ⟨_, rfl⟩, hW, hsame.mono (by decide) (by decide)⟩
      · show Steps p.tables e below (T13.setTop (mkF m 53 #[rv r0, rv r1, rv r1] [(.int (0 : Int32))])) _
        exact retN X13 hx (t := .boolean) Bd.returns (by simp) (hb hby d10_53) hr
      · show Q10v22 Z r0 r1 w1 w2 w3 u1 u2 u3 y0 y1 k1 k2 s0 s1 t0 t1 cs h0 n0 _ T13.heap _
        rw [e13]
        exact ⟨congrArg (fun z => some (Value.int z)) ((if_pos ha20).trans ((if_neg hc31).trans rfl)).symm, N0, rfl⟩
  · have pre25 : ∀ t, Steps p.tables e below (T8.setTop (mkF m 53 #[rv r0, rv r1, rv r1] [(.int (0 : Int32))])) t → Steps p.tables e below (s₁.setTop (entryFrame m #[(.ref r0), (.ref r1)] 3)) t := by
      intro t kt
      refine pre9 _ ?_
      show Steps p.tables e below (T8.setTop (mkF m 20 #[rv r0, rv r1, rv r1] [(.ref u1), (.ref w1)])) _
      refine Jvm.RoadKit.acmp (g := (mkF m 20 #[rv r0, rv r1, rv r1] [(.ref u1), (.ref w1)])) X8 hx rfl rfl rfl (pc0 := 20) (pc' := 52) (same := false) rfl (hb hby d10_20) rfl (decide_eq_false fun q => ha20 (Value.ref.inj q)) (by decide) (by decide) ?_
      show Steps p.tables e below (T8.setTop (mkF m 52 #[rv r0, rv r1, rv r1] [])) _
      refine XS.iconst X8.here hx rfl (hb hby d10_52) ?_
      exact kt
    obtain ⟨fs, hr, hrun, hended, hW, hsame⟩ := X8.leave (v := some (.int (0 : Int32))) (fun h => by rw [Bd.returns] at h; cases h)
    refine ⟨_, _, pre25 _ ?_, hrun, hended, _, _, rfl, ?_, ⟨_, rfl⟩, hW, hsame.mono (by decide) (by decide)⟩
    · show Steps p.tables e below (T8.setTop (mkF m 53 #[rv r0, rv r1, rv r1] [(.int (0 : Int32))])) _
      exact retN X8 hx (t := .boolean) Bd.returns (by simp) (hb hby d10_53) hr
    · show Q10v22 Z r0 r1 w1 w2 w3 u1 u2 u3 y0 y1 k1 k2 s0 s1 t0 t1 cs h0 n0 _ T8.heap _
      rw [e8]
      exact ⟨congrArg (fun z => some (Value.int z)) ((if_neg ha20).trans rfl).symm, N0, rfl⟩
theorem own_ch (y : Int32) : ¬ ((255 : Int32) < ((y &&& (255 : Int32)).toUInt32.toUInt16.toUInt32.toInt32)) ∧ nar .char ((y &&& (255 : Int32)).toUInt32.toUInt16.toUInt32.toInt32) = ((y &&& (255 : Int32)).toUInt32.toUInt16.toUInt32.toInt32) ∧ 0 ≤ ((y &&& (255 : Int32)).toUInt32.toUInt16.toUInt32.toInt32).toInt ∧ ((y &&& (255 : Int32)).toUInt32.toUInt16.toUInt32.toInt32).toInt < 256 := by
  have h1 := c_mask y 255 8 (by decide) (by decide)
  have h2 := c_i2c (y &&& 255)
  have z : (255 : Int32).toInt = 255 := by decide
  refine ⟨?_, own_nc _, by omega, by omega⟩
  rw [Int32.lt_iff_toInt_lt]; omega
theorem own_binj (x y : Int32) (hx : 0 ≤ x.toInt ∧ x.toInt < 256) (hy : 0 ≤ y.toInt ∧ y.toInt < 256) : x.toInt8.toInt32 = y.toInt8.toInt32 ↔ x = y := by
  constructor
  · intro h
    have h1 := c_i2b x; have h2 := c_i2b y
    rw [h] at h1
    apply Int32.toInt_inj.mp
    omega
  · intro h; rw [h]
theorem own_rinj (aK aP aS aR : Addr) (h1 : aK ≠ aP) (h2 : aK ≠ aS) (h3 : aK ≠ aR) (h4 : aP ≠ aS) (h5 : aP ≠ aR) (h6 : aS ≠ aR) (i j : Int32) (hi : 0 ≤ i.toInt ∧ i.toInt < 4) (hj : 0 ≤ j.toInt ∧ j.toInt < 4) : own_rs aK aP aS aR i = own_rs aK aP aS aR j ↔ i = j := by
  have hv : ∀ k : Int32, 0 ≤ k.toInt ∧ k.toInt < 4 → k = 0 ∨ k = 1 ∨ k = 2 ∨ k = 3 := fun k hk => by
    simp only [← Int32.toInt_inj]
    have z : (0 : Int32).toInt = 0 ∧ (1 : Int32).toInt = 1 ∧ (2 : Int32).toInt = 2 ∧ (3 : Int32).toInt = 3 := by decide
    omega
  rcases hv i hi with rfl | rfl | rfl | rfl <;> rcases hv j hj with rfl | rfl | rfl | rfl <;> simp +decide [own_rs, h1, h2, h3, h4, h5, h6, h1.symm, h2.symm, h3.symm, h4.symm, h5.symm, h6.symm]
theorem own_and3 (x : Int32) : 0 ≤ (x &&& (3 : Int32)).toInt ∧ (x &&& (3 : Int32)).toInt < 4 := by
  have h := c_mask x 3 2 (by decide) (by decide)
  omega
theorem own_fin22 (aK aP aS aR : Addr) (ra rb p1 ib ca0 ca1 cb0 cb1 sd ex : Int32) (hr : own_rs aK aP aS aR ra = own_rs aK aP aS aR rb ↔ ra = rb) (h0 : ca0.toInt8.toInt32 = cb0.toInt8.toInt32 ↔ ca0 = cb0) (h1 : ca1.toInt8.toInt32 = cb1.toInt8.toInt32 ↔ ca1 = cb1)
    (hsd : ((ca0 = cb0) ∧ (ca1 = cb1) ∧ sd = (1 : Int32)) ∨ ((ca0 = cb0) ∧ (¬ (ca1 = cb1)) ∧ sd = (0 : Int32)) ∨ ((¬ (ca0 = cb0)) ∧ sd = (0 : Int32)))
    (hex : ((ra = rb) ∧ (p1 = ib) ∧ (sd = (0 : Int32)) ∧ ex = (0 : Int32)) ∨ ((ra = rb) ∧ (p1 = ib) ∧ (¬ (sd = (0 : Int32))) ∧ ex = (1 : Int32)) ∨ ((ra = rb) ∧ (¬ (p1 = ib)) ∧ ex = (0 : Int32)) ∨ ((¬ (ra = rb)) ∧ ex = (0 : Int32))) :
    own_de22 (own_rs aK aP aS aR ra) p1 (own_rs aK aP aS aR rb) ib (ca0.toInt8.toInt32) (ca1.toInt8.toInt32) (cb0.toInt8.toInt32) (cb1.toInt8.toInt32) = ex ∧ own_de22 (own_rs aK aP aS aR rb) ib (own_rs aK aP aS aR ra) p1 (cb0.toInt8.toInt32) (cb1.toInt8.toInt32) (ca0.toInt8.toInt32) (ca1.toInt8.toInt32) = ex := by
  have hr' : own_rs aK aP aS aR rb = own_rs aK aP aS aR ra ↔ ra = rb := ⟨fun q => hr.mp q.symm, fun q => (hr.mpr q).symm⟩
  have h0' : cb0.toInt8.toInt32 = ca0.toInt8.toInt32 ↔ ca0 = cb0 := ⟨fun q => h0.mp q.symm, fun q => (h0.mpr q).symm⟩
  have h1' : cb1.toInt8.toInt32 = ca1.toInt8.toInt32 ↔ ca1 = cb1 := ⟨fun q => h1.mp q.symm, fun q => (h1.mpr q).symm⟩
  have hp : ib = p1 ↔ p1 = ib := ⟨Eq.symm, Eq.symm⟩
  unfold own_de22 own_se22 own_la22
  simp only [hr, hr', h0, h0', h1, h1', hp]
  clear hr hr' h0 h0' h1 h1' hp
  rcases hsd with ⟨d1, d2, rfl⟩ | ⟨d1, d2, rfl⟩ | ⟨d1, rfl⟩ <;> rcases hex with ⟨e1, e2, e3, rfl⟩ | ⟨e1, e2, e3, rfl⟩ | ⟨e1, e2, rfl⟩ | ⟨e1, rfl⟩ <;> first | exact absurd e3 (by decide) | exact absurd rfl e3 | simp_all
theorem own_fin11 (aK aP aS aR : Addr) (ra rb p1 ib ca0 ca1 cb0 cb1 sd ex : Int32) (hr : own_rs aK aP aS aR ra = own_rs aK aP aS aR rb ↔ ra = rb) (h0 : ca0.toInt8.toInt32 = cb0.toInt8.toInt32 ↔ ca0 = cb0) (h1 : ca1.toInt8.toInt32 = cb1.toInt8.toInt32 ↔ ca1 = cb1)
    (hsd : ((ca0 = cb0) ∧ sd = (1 : Int32)) ∨ ((¬ (ca0 = cb0)) ∧ sd = (0 : Int32)))
    (hex : ((ra = rb) ∧ (p1 = ib) ∧ (sd = (0 : Int32)) ∧ ex = (0 : Int32)) ∨ ((ra = rb) ∧ (p1 = ib) ∧ (¬ (sd = (0 : Int32))) ∧ ex = (1 : Int32)) ∨ ((ra = rb) ∧ (¬ (p1 = ib)) ∧ ex = (0 : Int32)) ∨ ((¬ (ra = rb)) ∧ ex = (0 : Int32))) :
    own_de11 (own_rs aK aP aS aR ra) p1 (own_rs aK aP aS aR rb) ib (ca0.toInt8.toInt32) (cb0.toInt8.toInt32) = ex ∧ own_de11 (own_rs aK aP aS aR rb) ib (own_rs aK aP aS aR ra) p1 (cb0.toInt8.toInt32) (ca0.toInt8.toInt32) = ex := by
  have hr' : own_rs aK aP aS aR rb = own_rs aK aP aS aR ra ↔ ra = rb := ⟨fun q => hr.mp q.symm, fun q => (hr.mpr q).symm⟩
  have h0' : cb0.toInt8.toInt32 = ca0.toInt8.toInt32 ↔ ca0 = cb0 := ⟨fun q => h0.mp q.symm, fun q => (h0.mpr q).symm⟩
  have hp : ib = p1 ↔ p1 = ib := ⟨Eq.symm, Eq.symm⟩
  unfold own_de11 own_se11 own_la11
  simp only [hr, hr', h0, h0', hp]
  clear hr hr' h0 h0' h1 hp
  rcases hsd with ⟨d1, rfl⟩ | ⟨d1, rfl⟩ <;> rcases hex with ⟨e1, e2, e3, rfl⟩ | ⟨e1, e2, e3, rfl⟩ | ⟨e1, e2, rfl⟩ | ⟨e1, rfl⟩ <;> first | exact absurd e3 (by decide) | exact absurd rfl e3 | simp_all
theorem own_fin12 (w1 : Addr) (w2 : Int32) (u1 : Addr) (u2 : Int32) (s0 t0 t1 : Int32) : own_de12 w1 w2 u1 u2 s0 t0 t1 = (0 : Int32) := by
  simp [own_de12, own_se12, own_la12]
theorem own_fin21 (w1 : Addr) (w2 : Int32) (u1 : Addr) (u2 : Int32) (s0 s1 t0 : Int32) : own_de21 w1 w2 u1 u2 s0 s1 t0 = (0 : Int32) := by
  simp [own_de21, own_se21, own_la21]

theorem pd16 : parseMethodDescriptor "(ZCC)Ljava/lang/String;" = some ⟨[.boolean, .char, .char], some (.object "java/lang/String")⟩ := by decide +kernel
theorem pd17 : parseMethodDescriptor "(I)Lcom/example/fair_witness/fairwitness/verifier/Reason;" = some ⟨[.int], some (.object "com/example/fair_witness/fairwitness/verifier/Reason")⟩ := by decide +kernel
theorem pd18 : parseMethodDescriptor "(Lcom/example/fair_witness/fairwitness/verifier/Reason;ILjava/lang/String;)V" = some ⟨[(.object "com/example/fair_witness/fairwitness/verifier/Reason"), .int, (.object "java/lang/String")], none⟩ := by decide +kernel
theorem ef_0 (m : MethodId) (x0 : Int32) (x1 : Int32) (x2 : Int32) (x3 : Int32) (x4 : Int32) (x5 : Int32) : entryFrame m #[(.int x0), (.int x1), (.int x2), (.int x3), (.int x4), (.int x5)] maxLocals = mkF m 0 #[.val (.int x0), .val (.int x1), .val (.int x2), .val (.int x3), .val (.int x4), .val (.int x5), .unset, .unset, .unset, .unset, .unset, .unset, .unset, .unset, .unset, .unset, .unset, .unset, .unset, .unset, .unset, .unset, .unset] [] := by first | (simp [entryFrame, mkF, argsToLocals, Value.category, maxLocals]; done) | rfl
def Q0 (Z : State) (p0 : Int32) (p1 : Int32) (p2 : Int32) (p3 : Int32) (p4 : Int32) (p5 : Int32) (aK : Addr) (aP : Addr) (aS : Addr) (aR : Addr) (cs : Int32) (h0 : Heap) (n0 : Nat) (v : Option Value) (h : Heap) (L : List Loc) : Prop := v = some (.int 1) ∧ Fr n0 L
set_option maxRecDepth 65536 in
set_option maxHeartbeats 40000000 in
theorem rm0 (l : Launch) (Z : State) (a0 : Array Value) (hw : ∀ d ∈ tables_1, d.before a0 Z = true) (ws : List Jvm.Cond) (p0 : Int32) (p1 : Int32) (p2 : Int32) (p3 : Int32) (p4 : Int32) (p5 : Int32) (aK : Addr) (aP : Addr) (aS : Addr) (aR : Addr) (cs : Int32) (h0 : Heap) (n0 : Nat) (Z0 : n0 ≤ h0.size) (O0 : Old Z n0 h0) (S_KEY_DESCRIPTION_INVALID : Sta Z Z.heap "com/example/fair_witness/fairwitness/verifier/Reason" "KEY_DESCRIPTION_INVALID" "Lcom/example/fair_witness/fairwitness/verifier/Reason;" (.ref aK)) (S_PROVISIONING_INFO_INVALID : Sta Z Z.heap "com/example/fair_witness/fairwitness/verifier/Reason" "PROVISIONING_INFO_INVALID" "Lcom/example/fair_witness/fairwitness/verifier/Reason;" (.ref aP)) (S_SIGNATURE_INVALID : Sta Z Z.heap "com/example/fair_witness/fairwitness/verifier/Reason" "SIGNATURE_INVALID" "Lcom/example/fair_witness/fairwitness/verifier/Reason;" (.ref aS)) (S_ROOT_NOT_TRUSTED : Sta Z Z.heap "com/example/fair_witness/fairwitness/verifier/Reason" "ROOT_NOT_TRUSTED" "Lcom/example/fair_witness/fairwitness/verifier/Reason;" (.ref aR)) (S_cs : Sta Z Z.heap "java/lang/String" "COMPACT_STRINGS" "Z" (.int cs)) (hcs : ¬ (cs = (0 : Int32))) (hne01 : aK ≠ aP) (hne02 : aK ≠ aS) (hne03 : aK ≠ aR) (hne12 : aP ≠ aS) (hne13 : aP ≠ aR) (hne23 : aS ≠ aR) :
    MetFree l x (head1 (Jvm.Cond.code x code maxLocals ret :: ws) room_1) (fun a U => a = #[(.int p0), (.int p1), (.int p2), (.int p3), (.int p4), (.int p5)] ∧ Z.Warmed39 U.vm ∧ U.heap = h0) (fun _ _ _ _ _ => True) (fun _ U o U' => ∃ v L, o = .returned v ∧ Q0 Z p0 p1 p2 p3 p4 p5 aK aP aS aR cs h0 n0 v U'.heap L ∧ FrameEnd U o U' L room_1.cells room_1.slots) := by
  refine MetFree.of_bodySF (plainFor_of_name pn10) hisR ?_
  intro p e s m args below meth c s₁ Bd hml0 hP hK
  obtain ⟨rfl, hZ, hh⟩ := hP
  have hx := Bd.exec
  have hby := Bd.bytes
  have hml : c.maxLocals = 23 := hml0
  have hown : s.vm.findClass "com/example/fair_witness/fairwitness/verifier/DecodingFailureEqualsPinLaw" = some m.cls := findClass_of_methodNamed Bd.named
  have hnm := (name_of_methodNamed Bd.named Bd.method).1
  have X0 : Stand p l e room_1 s m #[(.int p0), (.int p1), (.int p2), (.int p3), (.int p4), (.int p5)] below meth c s₁ [] 0 0 := Stand.of_body Bd
  have e0 : s₁.heap = h0 := by rw [← hh, Bd.state]; rfl
  have N0 := Fr.nil n0
  have pre0 : ∀ t, Steps p.tables e below (s₁.setTop (mkF m 0 #[iv p0, iv p1, iv p2, iv p3, iv p4, iv p5, .unset, .unset, .unset, .unset, .unset, .unset, .unset, .unset, .unset, .unset, .unset, .unset, .unset, .unset, .unset, .unset, .unset] [])) t → Steps p.tables e below (s₁.setTop (entryFrame m #[(.int p0), (.int p1), (.int p2), (.int p3), (.int p4), (.int p5)] maxLocals)) t := fun t k => castTop (ef_0 m p0 p1 p2 p3 p4 p5) k
  obtain ⟨ra, h_ra⟩ : ∃ z : Int32, z = (p0 &&& (3 : Int32)) := ⟨_, rfl⟩
  have pre1 : ∀ t, Steps p.tables e below (s₁.setTop (mkF m 5 #[iv p0, iv p1, iv p2, iv p3, iv p4, iv p5, iv ra, .unset, .unset, .unset, .unset, .unset, .unset, .unset, .unset, .unset, .unset, .unset, .unset, .unset, .unset, .unset, .unset] [])) t → Steps p.tables e below (s₁.setTop (entryFrame m #[(.int p0), (.int p1), (.int p2), (.int p3), (.int p4), (.int p5)] maxLocals)) t := by
    intro t kt
    refine pre0 _ ?_
    show Steps p.tables e below (s₁.setTop (mkF m 0 #[iv p0, iv p1, iv p2, iv p3, iv p4, iv p5, .unset, .unset, .unset, .unset, .unset, .unset, .unset, .unset, .unset, .unset, .unset, .unset, .unset, .unset, .unset, .unset, .unset] [])) _
    refine XS.iloadN X0.here hx rfl (hb hby at_0) rfl ?_
    show Steps p.tables e below (s₁.setTop (mkF m 1 #[iv p0, iv p1, iv p2, iv p3, iv p4, iv p5, .unset, .unset, .unset, .unset, .unset, .unset, .unset, .unset, .unset, .unset, .unset, .unset, .unset, .unset, .unset, .unset, .unset] [(.int p0)])) _
    refine XS.iconst X0.here hx rfl (hb hby at_1) ?_
    show Steps p.tables e below (s₁.setTop (mkF m 2 #[iv p0, iv p1, iv p2, iv p3, iv p4, iv p5, .unset, .unset, .unset, .unset, .unset, .unset, .unset, .unset, .unset, .unset, .unset, .unset, .unset, .unset, .unset, .unset, .unset] [(.int (3 : Int32)), (.int p0)])) _
    refine XS.iand X0.here hx rfl (hb hby at_2) rfl ?_
    show Steps p.tables e below (s₁.setTop (mkF m 3 #[iv p0, iv p1, iv p2, iv p3, iv p4, iv p5, .unset, .unset, .unset, .unset, .unset, .unset, .unset, .unset, .unset, .unset, .unset, .unset, .unset, .unset, .unset, .unset, .unset] [(.int (p0 &&& (3 : Int32)))])) _
    refine XS.istore X0.here hx rfl (hb hby at_3) rfl (l' := #[iv p0, iv p1, iv p2, iv p3, iv p4, iv p5, iv (p0 &&& (3 : Int32)), .unset, .unset, .unset, .unset, .unset, .unset, .unset, .unset, .unset, .unset, .unset, .unset, .unset, .unset, .unset, .unset]) rfl ?_
    show Steps p.tables e below (s₁.setTop (mkF m 5 #[iv p0, iv p1, iv p2, iv p3, iv p4, iv p5, iv (p0 &&& (3 : Int32)), .unset, .unset, .unset, .unset, .unset, .unset, .unset, .unset, .unset, .unset, .unset, .unset, .unset, .unset, .unset, .unset] [])) _
    rw [← h_ra]
    exact kt
  obtain ⟨rb, hrb, pre6⟩ : ∃ (rb : Int32), ((((p5 &&& (1 : Int32)) = (0 : Int32)) ∧ rb = (((p0.toUInt32 >>> ((2 : Int32) &&& 31).toUInt32).toInt32) &&& (3 : Int32))) ∨ ((¬ ((p5 &&& (1 : Int32)) = (0 : Int32))) ∧ rb = ra)) ∧ ∀ t, Steps p.tables e below (s₁.setTop (mkF m 22 #[iv p0, iv p1, iv p2, iv p3, iv p4, iv p5, iv ra, .unset, .unset, .unset, .unset, .unset, .unset, .unset, .unset, .unset, .unset, .unset, .unset, .unset, .unset, .unset, .unset] [(.int rb)])) t → Steps p.tables e below (s₁.setTop (entryFrame m #[(.int p0), (.int p1), (.int p2), (.int p3), (.int p4), (.int p5)] maxLocals)) t := by
    have pre2 : ∀ t, Steps p.tables e below (s₁.setTop (mkF m 9 #[iv p0, iv p1, iv p2, iv p3, iv p4, iv p5, iv ra, .unset, .unset, .unset, .unset, .unset, .unset, .unset, .unset, .unset, .unset, .unset, .unset, .unset, .unset, .unset, .unset] [(.int (p5 &&& (1 : Int32)))])) t → Steps p.tables e below (s₁.setTop (entryFrame m #[(.int p0), (.int p1), (.int p2), (.int p3), (.int p4), (.int p5)] maxLocals)) t := by
      intro t kt
      refine pre1 _ ?_
      show Steps p.tables e below (s₁.setTop (mkF m 5 #[iv p0, iv p1, iv p2, iv p3, iv p4, iv p5, iv ra, .unset, .unset, .unset, .unset, .unset, .unset, .unset, .unset, .unset, .unset, .unset, .unset, .unset, .unset, .unset, .unset] [])) _
      refine XS.iload X0.here hx rfl (hb hby at_5) rfl ?_
      show Steps p.tables e below (s₁.setTop (mkF m 7 #[iv p0, iv p1, iv p2, iv p3, iv p4, iv p5, iv ra, .unset, .unset, .unset, .unset, .unset, .unset, .unset, .unset, .unset, .unset, .unset, .unset, .unset, .unset, .unset, .unset] [(.int p5)])) _
      refine XS.iconst X0.here hx rfl (hb hby at_7) ?_
      show Steps p.tables e below (s₁.setTop (mkF m 8 #[iv p0, iv p1, iv p2, iv p3, iv p4, iv p5, iv ra, .unset, .unset, .unset, .unset, .unset, .unset, .unset, .unset, .unset, .unset, .unset, .unset, .unset, .unset, .unset, .unset] [(.int (1 : Int32)), (.int p5)])) _
      refine XS.iand X0.here hx rfl (hb hby at_8) rfl ?_
      exact kt
    by_cases hc9 : (p5 &&& (1 : Int32)) = (0 : Int32)
    · have pre3 : ∀ t, Steps p.tables e below (s₁.setTop (mkF m 22 #[iv p0, iv p1, iv p2, iv p3, iv p4, iv p5, iv ra, .unset, .unset, .unset, .unset, .unset, .unset, .unset, .unset, .unset, .unset, .unset, .unset, .unset, .unset, .unset, .unset] [(.int (((p0.toUInt32 >>> ((2 : Int32) &&& 31).toUInt32).toInt32) &&& (3 : Int32)))])) t → Steps p.tables e below (s₁.setTop (entryFrame m #[(.int p0), (.int p1), (.int p2), (.int p3), (.int p4), (.int p5)] maxLocals)) t := by
        intro t kt
        refine pre2 _ ?_
        show Steps p.tables e below (s₁.setTop (mkF m 9 #[iv p0, iv p1, iv p2, iv p3, iv p4, iv p5, iv ra, .unset, .unset, .unset, .unset, .unset, .unset, .unset, .unset, .unset, .unset, .unset, .unset, .unset, .unset, .unset, .unset] [(.int (p5 &&& (1 : Int32)))])) _
        refine XS.ifYes X0.here hx rfl (pc0 := 9) (pc' := 17) rfl (hb hby at_9) rfl ((if0 _ _).trans (teq hc9).1) (by decide) (by decide) ?_
        show Steps p.tables e below (s₁.setTop (mkF m 17 #[iv p0, iv p1, iv p2, iv p3, iv p4, iv p5, iv ra, .unset, .unset, .unset, .unset, .unset, .unset, .unset, .unset, .unset, .unset, .unset, .unset, .unset, .unset, .unset, .unset] [])) _
        refine XS.iloadN X0.here hx rfl (hb hby at_17) rfl ?_
        show Steps p.tables e below (s₁.setTop (mkF m 18 #[iv p0, iv p1, iv p2, iv p3, iv p4, iv p5, iv ra, .unset, .unset, .unset, .unset, .unset, .unset, .unset, .unset, .unset, .unset, .unset, .unset, .unset, .unset, .unset, .unset] [(.int p0)])) _
        refine XS.iconst X0.here hx rfl (hb hby at_18) ?_
        show Steps p.tables e below (s₁.setTop (mkF m 19 #[iv p0, iv p1, iv p2, iv p3, iv p4, iv p5, iv ra, .unset, .unset, .unset, .unset, .unset, .unset, .unset, .unset, .unset, .unset, .unset, .unset, .unset, .unset, .unset, .unset] [(.int (2 : Int32)), (.int p0)])) _
        refine XS.iushr X0.here hx rfl (hb hby at_19) rfl ?_
        show Steps p.tables e below (s₁.setTop (mkF m 20 #[iv p0, iv p1, iv p2, iv p3, iv p4, iv p5, iv ra, .unset, .unset, .unset, .unset, .unset, .unset, .unset, .unset, .unset, .unset, .unset, .unset, .unset, .unset, .unset, .unset] [(.int ((p0.toUInt32 >>> ((2 : Int32) &&& 31).toUInt32).toInt32))])) _
        refine XS.iconst X0.here hx rfl (hb hby at_20) ?_
        show Steps p.tables e below (s₁.setTop (mkF m 21 #[iv p0, iv p1, iv p2, iv p3, iv p4, iv p5, iv ra, .unset, .unset, .unset, .unset, .unset, .unset, .unset, .unset, .unset, .unset, .unset, .unset, .unset, .unset, .unset, .unset] [(.int (3 : Int32)), (.int ((p0.toUInt32 >>> ((2 : Int32) &&& 31).toUInt32).toInt32))])) _
        refine XS.iand X0.here hx rfl (hb hby at_21) rfl ?_
        exact kt
      exact ⟨(((p0.toUInt32 >>> ((2 : Int32) &&& 31).toUInt32).toInt32) &&& (3 : Int32)), Or.inl ⟨hc9, rfl⟩, pre3⟩
    · have pre4 : ∀ t, Steps p.tables e below (s₁.setTop (mkF m 22 #[iv p0, iv p1, iv p2, iv p3, iv p4, iv p5, iv ra, .unset, .unset, .unset, .unset, .unset, .unset, .unset, .unset, .unset, .unset, .unset, .unset, .unset, .unset, .unset, .unset] [(.int ra)])) t → Steps p.tables e below (s₁.setTop (entryFrame m #[(.int p0), (.int p1), (.int p2), (.int p3), (.int p4), (.int p5)] maxLocals)) t := by
        intro t kt
        refine pre2 _ ?_
        show Steps p.tables e below (s₁.setTop (mkF m 9 #[iv p0, iv p1, iv p2, iv p3, iv p4, iv p5, iv ra, .unset, .unset, .unset, .unset, .unset, .unset, .unset, .unset, .unset, .unset, .unset, .unset, .unset, .unset, .unset, .unset] [(.int (p5 &&& (1 : Int32)))])) _
        refine XS.ifNo X0.here hx rfl (hb hby at_9) rfl ((if0 _ _).trans (feq hc9).1) ?_
        show Steps p.tables e below (s₁.setTop (mkF m 12 #[iv p0, iv p1, iv p2, iv p3, iv p4, iv p5, iv ra, .unset, .unset, .unset, .unset, .unset, .unset, .unset, .unset, .unset, .unset, .unset, .unset, .unset, .unset, .unset, .unset] [])) _
        refine XS.iload X0.here hx rfl (hb hby at_12) rfl ?_
        show Steps p.tables e below (s₁.setTop (mkF m 14 #[iv p0, iv p1, iv p2, iv p3, iv p4, iv p5, iv ra, .unset, .unset, .unset, .unset, .unset, .unset, .unset, .unset, .unset, .unset, .unset, .unset, .unset, .unset, .unset, .unset] [(.int ra)])) _
        refine XS.goto X0.here hx rfl (pc0 := 14) (pc' := 22) rfl (hb hby at_14) (by decide) (by decide) ?_
        exact kt
      exact ⟨ra, Or.inr (⟨hc9, rfl⟩), pre4⟩
  have pre7 : ∀ t, Steps p.tables e below (s₁.setTop (mkF m 24 #[iv p0, iv p1, iv p2, iv p3, iv p4, iv p5, iv ra, iv rb, .unset, .unset, .unset, .unset, .unset, .unset, .unset, .unset, .unset, .unset, .unset, .unset, .unset, .unset, .unset] [])) t → Steps p.tables e below (s₁.setTop (entryFrame m #[(.int p0), (.int p1), (.int p2), (.int p3), (.int p4), (.int p5)] maxLocals)) t := by
    intro t kt
    refine pre6 _ ?_
    show Steps p.tables e below (s₁.setTop (mkF m 22 #[iv p0, iv p1, iv p2, iv p3, iv p4, iv p5, iv ra, .unset, .unset, .unset, .unset, .unset, .unset, .unset, .unset, .unset, .unset, .unset, .unset, .unset, .unset, .unset, .unset] [(.int rb)])) _
    refine XS.istore X0.here hx rfl (hb hby at_22) rfl (l' := #[iv p0, iv p1, iv p2, iv p3, iv p4, iv p5, iv ra, iv rb, .unset, .unset, .unset, .unset, .unset, .unset, .unset, .unset, .unset, .unset, .unset, .unset, .unset, .unset, .unset]) rfl ?_
    exact kt
  obtain ⟨ib, hj12, pre12⟩ : ∃ (ib : Int32), (True) ∧ ∀ t, Steps p.tables e below (s₁.setTop (mkF m 36 #[iv p0, iv p1, iv p2, iv p3, iv p4, iv p5, iv ra, iv rb, .unset, .unset, .unset, .unset, .unset, .unset, .unset, .unset, .unset, .unset, .unset, .unset, .unset, .unset, .unset] [(.int ib)])) t → Steps p.tables e below (s₁.setTop (entryFrame m #[(.int p0), (.int p1), (.int p2), (.int p3), (.int p4), (.int p5)] maxLocals)) t := by
    have pre8 : ∀ t, Steps p.tables e below (s₁.setTop (mkF m 28 #[iv p0, iv p1, iv p2, iv p3, iv p4, iv p5, iv ra, iv rb, .unset, .unset, .unset, .unset, .unset, .unset, .unset, .unset, .unset, .unset, .unset, .unset, .unset, .unset, .unset] [(.int (p5 &&& (2 : Int32)))])) t → Steps p.tables e below (s₁.setTop (entryFrame m #[(.int p0), (.int p1), (.int p2), (.int p3), (.int p4), (.int p5)] maxLocals)) t := by
      intro t kt
      refine pre7 _ ?_
      show Steps p.tables e below (s₁.setTop (mkF m 24 #[iv p0, iv p1, iv p2, iv p3, iv p4, iv p5, iv ra, iv rb, .unset, .unset, .unset, .unset, .unset, .unset, .unset, .unset, .unset, .unset, .unset, .unset, .unset, .unset, .unset] [])) _
      refine XS.iload X0.here hx rfl (hb hby at_24) rfl ?_
      show Steps p.tables e below (s₁.setTop (mkF m 26 #[iv p0, iv p1, iv p2, iv p3, iv p4, iv p5, iv ra, iv rb, .unset, .unset, .unset, .unset, .unset, .unset, .unset, .unset, .unset, .unset, .unset, .unset, .unset, .unset, .unset] [(.int p5)])) _
      refine XS.iconst X0.here hx rfl (hb hby at_26) ?_
      show Steps p.tables e below (s₁.setTop (mkF m 27 #[iv p0, iv p1, iv p2, iv p3, iv p4, iv p5, iv ra, iv rb, .unset, .unset, .unset, .unset, .unset, .unset, .unset, .unset, .unset, .unset, .unset, .unset, .unset, .unset, .unset] [(.int (2 : Int32)), (.int p5)])) _
      refine XS.iand X0.here hx rfl (hb hby at_27) rfl ?_
      exact kt
    by_cases hc28 : (p5 &&& (2 : Int32)) = (0 : Int32)
    · have pre9 : ∀ t, Steps p.tables e below (s₁.setTop (mkF m 36 #[iv p0, iv p1, iv p2, iv p3, iv p4, iv p5, iv ra, iv rb, .unset, .unset, .unset, .unset, .unset, .unset, .unset, .unset, .unset, .unset, .unset, .unset, .unset, .unset, .unset] [(.int p2)])) t → Steps p.tables e below (s₁.setTop (entryFrame m #[(.int p0), (.int p1), (.int p2), (.int p3), (.int p4), (.int p5)] maxLocals)) t := by
        intro t kt
        refine pre8 _ ?_
        show Steps p.tables e below (s₁.setTop (mkF m 28 #[iv p0, iv p1, iv p2, iv p3, iv p4, iv p5, iv ra, iv rb, .unset, .unset, .unset, .unset, .unset, .unset, .unset, .unset, .unset, .unset, .unset, .unset, .unset, .unset, .unset] [(.int (p5 &&& (2 : Int32)))])) _
        refine XS.ifYes X0.here hx rfl (pc0 := 28) (pc' := 35) rfl (hb hby at_28) rfl ((if0 _ _).trans (teq hc28).1) (by decide) (by decide) ?_
        show Steps p.tables e below (s₁.setTop (mkF m 35 #[iv p0, iv p1, iv p2, iv p3, iv p4, iv p5, iv ra, iv rb, .unset, .unset, .unset, .unset, .unset, .unset, .unset, .unset, .unset, .unset, .unset, .unset, .unset, .unset, .unset] [])) _
        refine XS.iloadN X0.here hx rfl (hb hby at_35) rfl ?_
        exact kt
      exact ⟨p2, trivial, pre9⟩
    · have pre10 : ∀ t, Steps p.tables e below (s₁.setTop (mkF m 36 #[iv p0, iv p1, iv p2, iv p3, iv p4, iv p5, iv ra, iv rb, .unset, .unset, .unset, .unset, .unset, .unset, .unset, .unset, .unset, .unset, .unset, .unset, .unset, .unset, .unset] [(.int p1)])) t → Steps p.tables e below (s₁.setTop (entryFrame m #[(.int p0), (.int p1), (.int p2), (.int p3), (.int p4), (.int p5)] maxLocals)) t := by
        intro t kt
        refine pre8 _ ?_
        show Steps p.tables e below (s₁.setTop (mkF m 28 #[iv p0, iv p1, iv p2, iv p3, iv p4, iv p5, iv ra, iv rb, .unset, .unset, .unset, .unset, .unset, .unset, .unset, .unset, .unset, .unset, .unset, .unset, .unset, .unset, .unset] [(.int (p5 &&& (2 : Int32)))])) _
        refine XS.ifNo X0.here hx rfl (hb hby at_28) rfl ((if0 _ _).trans (feq hc28).1) ?_
        show Steps p.tables e below (s₁.setTop (mkF m 31 #[iv p0, iv p1, iv p2, iv p3, iv p4, iv p5, iv ra, iv rb, .unset, .unset, .unset, .unset, .unset, .unset, .unset, .unset, .unset, .unset, .unset, .unset, .unset, .unset, .unset] [])) _
        refine XS.iloadN X0.here hx rfl (hb hby at_31) rfl ?_
        show Steps p.tables e below (s₁.setTop (mkF m 32 #[iv p0, iv p1, iv p2, iv p3, iv p4, iv p5, iv ra, iv rb, .unset, .unset, .unset, .unset, .unset, .unset, .unset, .unset, .unset, .unset, .unset, .unset, .unset, .unset, .unset] [(.int p1)])) _
        refine XS.goto X0.here hx rfl (pc0 := 32) (pc' := 36) rfl (hb hby at_32) (by decide) (by decide) ?_
        exact kt
      exact ⟨p1, trivial, pre10⟩
  have pre13 : ∀ t, Steps p.tables e below (s₁.setTop (mkF m 38 #[iv p0, iv p1, iv p2, iv p3, iv p4, iv p5, iv ra, iv rb, iv ib, .unset, .unset, .unset, .unset, .unset, .unset, .unset, .unset, .unset, .unset, .unset, .unset, .unset, .unset] [])) t → Steps p.tables e below (s₁.setTop (entryFrame m #[(.int p0), (.int p1), (.int p2), (.int p3), (.int p4), (.int p5)] maxLocals)) t := by
    intro t kt
    refine pre12 _ ?_
    show Steps p.tables e below (s₁.setTop (mkF m 36 #[iv p0, iv p1, iv p2, iv p3, iv p4, iv p5, iv ra, iv rb, .unset, .unset, .unset, .unset, .unset, .unset, .unset, .unset, .unset, .unset, .unset, .unset, .unset, .unset, .unset] [(.int ib)])) _
    refine XS.istore X0.here hx rfl (hb hby at_36) rfl (l' := #[iv p0, iv p1, iv p2, iv p3, iv p4, iv p5, iv ra, iv rb, iv ib, .unset, .unset, .unset, .unset, .unset, .unset, .unset, .unset, .unset, .unset, .unset, .unset, .unset, .unset]) rfl ?_
    exact kt
  obtain ⟨cb, hj18, pre18⟩ : ∃ (cb : Int32), (True) ∧ ∀ t, Steps p.tables e below (s₁.setTop (mkF m 51 #[iv p0, iv p1, iv p2, iv p3, iv p4, iv p5, iv ra, iv rb, iv ib, .unset, .unset, .unset, .unset, .unset, .unset, .unset, .unset, .unset, .unset, .unset, .unset, .unset, .unset] [(.int cb)])) t → Steps p.tables e below (s₁.setTop (entryFrame m #[(.int p0), (.int p1), (.int p2), (.int p3), (.int p4), (.int p5)] maxLocals)) t := by
    have pre14 : ∀ t, Steps p.tables e below (s₁.setTop (mkF m 42 #[iv p0, iv p1, iv p2, iv p3, iv p4, iv p5, iv ra, iv rb, iv ib, .unset, .unset, .unset, .unset, .unset, .unset, .unset, .unset, .unset, .unset, .unset, .unset, .unset, .unset] [(.int (p5 &&& (4 : Int32)))])) t → Steps p.tables e below (s₁.setTop (entryFrame m #[(.int p0), (.int p1), (.int p2), (.int p3), (.int p4), (.int p5)] maxLocals)) t := by
      intro t kt
      refine pre13 _ ?_
      show Steps p.tables e below (s₁.setTop (mkF m 38 #[iv p0, iv p1, iv p2, iv p3, iv p4, iv p5, iv ra, iv rb, iv ib, .unset, .unset, .unset, .unset, .unset, .unset, .unset, .unset, .unset, .unset, .unset, .unset, .unset, .unset] [])) _
      refine XS.iload X0.here hx rfl (hb hby at_38) rfl ?_
      show Steps p.tables e below (s₁.setTop (mkF m 40 #[iv p0, iv p1, iv p2, iv p3, iv p4, iv p5, iv ra, iv rb, iv ib, .unset, .unset, .unset, .unset, .unset, .unset, .unset, .unset, .unset, .unset, .unset, .unset, .unset, .unset] [(.int p5)])) _
      refine XS.iconst X0.here hx rfl (hb hby at_40) ?_
      show Steps p.tables e below (s₁.setTop (mkF m 41 #[iv p0, iv p1, iv p2, iv p3, iv p4, iv p5, iv ra, iv rb, iv ib, .unset, .unset, .unset, .unset, .unset, .unset, .unset, .unset, .unset, .unset, .unset, .unset, .unset, .unset] [(.int (4 : Int32)), (.int p5)])) _
      refine XS.iand X0.here hx rfl (hb hby at_41) rfl ?_
      exact kt
    by_cases hc42 : (p5 &&& (4 : Int32)) = (0 : Int32)
    · have pre15 : ∀ t, Steps p.tables e below (s₁.setTop (mkF m 51 #[iv p0, iv p1, iv p2, iv p3, iv p4, iv p5, iv ra, iv rb, iv ib, .unset, .unset, .unset, .unset, .unset, .unset, .unset, .unset, .unset, .unset, .unset, .unset, .unset, .unset] [(.int p4)])) t → Steps p.tables e below (s₁.setTop (entryFrame m #[(.int p0), (.int p1), (.int p2), (.int p3), (.int p4), (.int p5)] maxLocals)) t := by
        intro t kt
        refine pre14 _ ?_
        show Steps p.tables e below (s₁.setTop (mkF m 42 #[iv p0, iv p1, iv p2, iv p3, iv p4, iv p5, iv ra, iv rb, iv ib, .unset, .unset, .unset, .unset, .unset, .unset, .unset, .unset, .unset, .unset, .unset, .unset, .unset, .unset] [(.int (p5 &&& (4 : Int32)))])) _
        refine XS.ifYes X0.here hx rfl (pc0 := 42) (pc' := 49) rfl (hb hby at_42) rfl ((if0 _ _).trans (teq hc42).1) (by decide) (by decide) ?_
        show Steps p.tables e below (s₁.setTop (mkF m 49 #[iv p0, iv p1, iv p2, iv p3, iv p4, iv p5, iv ra, iv rb, iv ib, .unset, .unset, .unset, .unset, .unset, .unset, .unset, .unset, .unset, .unset, .unset, .unset, .unset, .unset] [])) _
        refine XS.iload X0.here hx rfl (hb hby at_49) rfl ?_
        exact kt
      exact ⟨p4, trivial, pre15⟩
    · have pre16 : ∀ t, Steps p.tables e below (s₁.setTop (mkF m 51 #[iv p0, iv p1, iv p2, iv p3, iv p4, iv p5, iv ra, iv rb, iv ib, .unset, .unset, .unset, .unset, .unset, .unset, .unset, .unset, .unset, .unset, .unset, .unset, .unset, .unset] [(.int p3)])) t → Steps p.tables e below (s₁.setTop (entryFrame m #[(.int p0), (.int p1), (.int p2), (.int p3), (.int p4), (.int p5)] maxLocals)) t := by
        intro t kt
        refine pre14 _ ?_
        show Steps p.tables e below (s₁.setTop (mkF m 42 #[iv p0, iv p1, iv p2, iv p3, iv p4, iv p5, iv ra, iv rb, iv ib, .unset, .unset, .unset, .unset, .unset, .unset, .unset, .unset, .unset, .unset, .unset, .unset, .unset, .unset] [(.int (p5 &&& (4 : Int32)))])) _
        refine XS.ifNo X0.here hx rfl (hb hby at_42) rfl ((if0 _ _).trans (feq hc42).1) ?_
        show Steps p.tables e below (s₁.setTop (mkF m 45 #[iv p0, iv p1, iv p2, iv p3, iv p4, iv p5, iv ra, iv rb, iv ib, .unset, .unset, .unset, .unset, .unset, .unset, .unset, .unset, .unset, .unset, .unset, .unset, .unset, .unset] [])) _
        refine XS.iloadN X0.here hx rfl (hb hby at_45) rfl ?_
        show Steps p.tables e below (s₁.setTop (mkF m 46 #[iv p0, iv p1, iv p2, iv p3, iv p4, iv p5, iv ra, iv rb, iv ib, .unset, .unset, .unset, .unset, .unset, .unset, .unset, .unset, .unset, .unset, .unset, .unset, .unset, .unset] [(.int p3)])) _
        refine XS.goto X0.here hx rfl (pc0 := 46) (pc' := 51) rfl (hb hby at_46) (by decide) (by decide) ?_
        exact kt
      exact ⟨p3, trivial, pre16⟩
  obtain ⟨ca0, h_ca0⟩ : ∃ z : Int32, z = ((p3 &&& (255 : Int32)).toUInt32.toUInt16.toUInt32.toInt32) := ⟨_, rfl⟩
  obtain ⟨ca1, h_ca1⟩ : ∃ z : Int32, z = ((((p3.toUInt32 >>> ((8 : Int32) &&& 31).toUInt32).toInt32) &&& (255 : Int32)).toUInt32.toUInt16.toUInt32.toInt32) := ⟨_, rfl⟩
  obtain ⟨cb0, h_cb0⟩ : ∃ z : Int32, z = ((cb &&& (255 : Int32)).toUInt32.toUInt16.toUInt32.toInt32) := ⟨_, rfl⟩
  obtain ⟨cb1, h_cb1⟩ : ∃ z : Int32, z = ((((cb.toUInt32 >>> ((8 : Int32) &&& 31).toUInt32).toInt32) &&& (255 : Int32)).toUInt32.toUInt16.toUInt32.toInt32) := ⟨_, rfl⟩
  have pre19 : ∀ t, Steps p.tables e below (s₁.setTop (mkF m 98 #[iv p0, iv p1, iv p2, iv p3, iv p4, iv p5, iv ra, iv rb, iv ib, iv cb, iv ca0, iv ca1, iv cb0, iv cb1, .unset, .unset, .unset, .unset, .unset, .unset, .unset, .unset, .unset] [(.int (p5 &&& (8 : Int32)))])) t → Steps p.tables e below (s₁.setTop (entryFrame m #[(.int p0), (.int p1), (.int p2), (.int p3), (.int p4), (.int p5)] maxLocals)) t := by
    intro t kt
    refine pre18 _ ?_
    show Steps p.tables e below (s₁.setTop (mkF m 51 #[iv p0, iv p1, iv p2, iv p3, iv p4, iv p5, iv ra, iv rb, iv ib, .unset, .unset, .unset, .unset, .unset, .unset, .unset, .unset, .unset, .unset, .unset, .unset, .unset, .unset] [(.int cb)])) _
    refine XS.istore X0.here hx rfl (hb hby at_51) rfl (l' := #[iv p0, iv p1, iv p2, iv p3, iv p4, iv p5, iv ra, iv rb, iv ib, iv cb, .unset, .unset, .unset, .unset, .unset, .unset, .unset, .unset, .unset, .unset, .unset, .unset, .unset]) rfl ?_
    show Steps p.tables e below (s₁.setTop (mkF m 53 #[iv p0, iv p1, iv p2, iv p3, iv p4, iv p5, iv ra, iv rb, iv ib, iv cb, .unset, .unset, .unset, .unset, .unset, .unset, .unset, .unset, .unset, .unset, .unset, .unset, .unset] [])) _
    refine XS.iloadN X0.here hx rfl (hb hby at_53) rfl ?_
    show Steps p.tables e below (s₁.setTop (mkF m 54 #[iv p0, iv p1, iv p2, iv p3, iv p4, iv p5, iv ra, iv rb, iv ib, iv cb, .unset, .unset, .unset, .unset, .unset, .unset, .unset, .unset, .unset, .unset, .unset, .unset, .unset] [(.int p3)])) _
    refine XS.sipush X0.here hx rfl (hb hby at_54) ?_
    show Steps p.tables e below (s₁.setTop (mkF m 57 #[iv p0, iv p1, iv p2, iv p3, iv p4, iv p5, iv ra, iv rb, iv ib, iv cb, .unset, .unset, .unset, .unset, .unset, .unset, .unset, .unset, .unset, .unset, .unset, .unset, .unset] [(.int (255 : Int32)), (.int p3)])) _
    refine XS.iand X0.here hx rfl (hb hby at_57) rfl ?_
    show Steps p.tables e below (s₁.setTop (mkF m 58 #[iv p0, iv p1, iv p2, iv p3, iv p4, iv p5, iv ra, iv rb, iv ib, iv cb, .unset, .unset, .unset, .unset, .unset, .unset, .unset, .unset, .unset, .unset, .unset, .unset, .unset] [(.int (p3 &&& (255 : Int32)))])) _
    refine XS.i2c X0.here hx rfl (hb hby at_58) rfl ?_
    show Steps p.tables e below (s₁.setTop (mkF m 59 #[iv p0, iv p1, iv p2, iv p3, iv p4, iv p5, iv ra, iv rb, iv ib, iv cb, .unset, .unset, .unset, .unset, .unset, .unset, .unset, .unset, .unset, .unset, .unset, .unset, .unset] [(.int ((p3 &&& (255 : Int32)).toUInt32.toUInt16.toUInt32.toInt32))])) _
    refine XS.istore X0.here hx rfl (hb hby at_59) rfl (l' := #[iv p0, iv p1, iv p2, iv p3, iv p4, iv p5, iv ra, iv rb, iv ib, iv cb, iv ((p3 &&& (255 : Int32)).toUInt32.toUInt16.toUInt32.toInt32), .unset, .unset, .unset, .unset, .unset, .unset, .unset, .unset, .unset, .unset, .unset, .unset]) rfl ?_
    show Steps p.tables e below (s₁.setTop (mkF m 61 #[iv p0, iv p1, iv p2, iv p3, iv p4, iv p5, iv ra, iv rb, iv ib, iv cb, iv ((p3 &&& (255 : Int32)).toUInt32.toUInt16.toUInt32.toInt32), .unset, .unset, .unset, .unset, .unset, .unset, .unset, .unset, .unset, .unset, .unset, .unset] [])) _
    rw [← h_ca0]
    show Steps p.tables e below (s₁.setTop (mkF m 61 #[iv p0, iv p1, iv p2, iv p3, iv p4, iv p5, iv ra, iv rb, iv ib, iv cb, iv ca0, .unset, .unset, .unset, .unset, .unset, .unset, .unset, .unset, .unset, .unset, .unset, .unset] [])) _
    refine XS.iloadN X0.here hx rfl (hb hby at_61) rfl ?_
    show Steps p.tables e below (s₁.setTop (mkF m 62 #[iv p0, iv p1, iv p2, iv p3, iv p4, iv p5, iv ra, iv rb, iv ib, iv cb, iv ca0, .unset, .unset, .unset, .unset, .unset, .unset, .unset, .unset, .unset, .unset, .unset, .unset] [(.int p3)])) _
    refine XS.bipush X0.here hx rfl (hb hby at_62) ?_
    show Steps p.tables e below (s₁.setTop (mkF m 64 #[iv p0, iv p1, iv p2, iv p3, iv p4, iv p5, iv ra, iv rb, iv ib, iv cb, iv ca0, .unset, .unset, .unset, .unset, .unset, .unset, .unset, .unset, .unset, .unset, .unset, .unset] [(.int (8 : Int32)), (.int p3)])) _
    refine XS.iushr X0.here hx rfl (hb hby at_64) rfl ?_
    show Steps p.tables e below (s₁.setTop (mkF m 65 #[iv p0, iv p1, iv p2, iv p3, iv p4, iv p5, iv ra, iv rb, iv ib, iv cb, iv ca0, .unset, .unset, .unset, .unset, .unset, .unset, .unset, .unset, .unset, .unset, .unset, .unset] [(.int ((p3.toUInt32 >>> ((8 : Int32) &&& 31).toUInt32).toInt32))])) _
    refine XS.sipush X0.here hx rfl (hb hby at_65) ?_
    show Steps p.tables e below (s₁.setTop (mkF m 68 #[iv p0, iv p1, iv p2, iv p3, iv p4, iv p5, iv ra, iv rb, iv ib, iv cb, iv ca0, .unset, .unset, .unset, .unset, .unset, .unset, .unset, .unset, .unset, .unset, .unset, .unset] [(.int (255 : Int32)), (.int ((p3.toUInt32 >>> ((8 : Int32) &&& 31).toUInt32).toInt32))])) _
    refine XS.iand X0.here hx rfl (hb hby at_68) rfl ?_
    show Steps p.tables e below (s₁.setTop (mkF m 69 #[iv p0, iv p1, iv p2, iv p3, iv p4, iv p5, iv ra, iv rb, iv ib, iv cb, iv ca0, .unset, .unset, .unset, .unset, .unset, .unset, .unset, .unset, .unset, .unset, .unset, .unset] [(.int (((p3.toUInt32 >>> ((8 : Int32) &&& 31).toUInt32).toInt32) &&& (255 : Int32)))])) _
    refine XS.i2c X0.here hx rfl (hb hby at_69) rfl ?_
    show Steps p.tables e below (s₁.setTop (mkF m 70 #[iv p0, iv p1, iv p2, iv p3, iv p4, iv p5, iv ra, iv rb, iv ib, iv cb, iv ca0, .unset, .unset, .unset, .unset, .unset, .unset, .unset, .unset, .unset, .unset, .unset, .unset] [(.int ((((p3.toUInt32 >>> ((8 : Int32) &&& 31).toUInt32).toInt32) &&& (255 : Int32)).toUInt32.toUInt16.toUInt32.toInt32))])) _
    refine XS.istore X0.here hx rfl (hb hby at_70) rfl (l' := #[iv p0, iv p1, iv p2, iv p3, iv p4, iv p5, iv ra, iv rb, iv ib, iv cb, iv ca0, iv ((((p3.toUInt32 >>> ((8 : Int32) &&& 31).toUInt32).toInt32) &&& (255 : Int32)).toUInt32.toUInt16.toUInt32.toInt32), .unset, .unset, .unset, .unset, .unset, .unset, .unset, .unset, .unset, .unset, .unset]) rfl ?_
    show Steps p.tables e below (s₁.setTop (mkF m 72 #[iv p0, iv p1, iv p2, iv p3, iv p4, iv p5, iv ra, iv rb, iv ib, iv cb, iv ca0, iv ((((p3.toUInt32 >>> ((8 : Int32) &&& 31).toUInt32).toInt32) &&& (255 : Int32)).toUInt32.toUInt16.toUInt32.toInt32), .unset, .unset, .unset, .unset, .unset, .unset, .unset, .unset, .unset, .unset, .unset] [])) _
    rw [← h_ca1]
    show Steps p.tables e below (s₁.setTop (mkF m 72 #[iv p0, iv p1, iv p2, iv p3, iv p4, iv p5, iv ra, iv rb, iv ib, iv cb, iv ca0, iv ca1, .unset, .unset, .unset, .unset, .unset, .unset, .unset, .unset, .unset, .unset, .unset] [])) _
    refine XS.iload X0.here hx rfl (hb hby at_72) rfl ?_
    show Steps p.tables e below (s₁.setTop (mkF m 74 #[iv p0, iv p1, iv p2, iv p3, iv p4, iv p5, iv ra, iv rb, iv ib, iv cb, iv ca0, iv ca1, .unset, .unset, .unset, .unset, .unset, .unset, .unset, .unset, .unset, .unset, .unset] [(.int cb)])) _
    refine XS.sipush X0.here hx rfl (hb hby at_74) ?_
    show Steps p.tables e below (s₁.setTop (mkF m 77 #[iv p0, iv p1, iv p2, iv p3, iv p4, iv p5, iv ra, iv rb, iv ib, iv cb, iv ca0, iv ca1, .unset, .unset, .unset, .unset, .unset, .unset, .unset, .unset, .unset, .unset, .unset] [(.int (255 : Int32)), (.int cb)])) _
    refine XS.iand X0.here hx rfl (hb hby at_77) rfl ?_
    show Steps p.tables e below (s₁.setTop (mkF m 78 #[iv p0, iv p1, iv p2, iv p3, iv p4, iv p5, iv ra, iv rb, iv ib, iv cb, iv ca0, iv ca1, .unset, .unset, .unset, .unset, .unset, .unset, .unset, .unset, .unset, .unset, .unset] [(.int (cb &&& (255 : Int32)))])) _
    refine XS.i2c X0.here hx rfl (hb hby at_78) rfl ?_
    show Steps p.tables e below (s₁.setTop (mkF m 79 #[iv p0, iv p1, iv p2, iv p3, iv p4, iv p5, iv ra, iv rb, iv ib, iv cb, iv ca0, iv ca1, .unset, .unset, .unset, .unset, .unset, .unset, .unset, .unset, .unset, .unset, .unset] [(.int ((cb &&& (255 : Int32)).toUInt32.toUInt16.toUInt32.toInt32))])) _
    refine XS.istore X0.here hx rfl (hb hby at_79) rfl (l' := #[iv p0, iv p1, iv p2, iv p3, iv p4, iv p5, iv ra, iv rb, iv ib, iv cb, iv ca0, iv ca1, iv ((cb &&& (255 : Int32)).toUInt32.toUInt16.toUInt32.toInt32), .unset, .unset, .unset, .unset, .unset, .unset, .unset, .unset, .unset, .unset]) rfl ?_
    show Steps p.tables e below (s₁.setTop (mkF m 81 #[iv p0, iv p1, iv p2, iv p3, iv p4, iv p5, iv ra, iv rb, iv ib, iv cb, iv ca0, iv ca1, iv ((cb &&& (255 : Int32)).toUInt32.toUInt16.toUInt32.toInt32), .unset, .unset, .unset, .unset, .unset, .unset, .unset, .unset, .unset, .unset] [])) _
    rw [← h_cb0]
    show Steps p.tables e below (s₁.setTop (mkF m 81 #[iv p0, iv p1, iv p2, iv p3, iv p4, iv p5, iv ra, iv rb, iv ib, iv cb, iv ca0, iv ca1, iv cb0, .unset, .unset, .unset, .unset, .unset, .unset, .unset, .unset, .unset, .unset] [])) _
    refine XS.iload X0.here hx rfl (hb hby at_81) rfl ?_
    show Steps p.tables e below (s₁.setTop (mkF m 83 #[iv p0, iv p1, iv p2, iv p3, iv p4, iv p5, iv ra, iv rb, iv ib, iv cb, iv ca0, iv ca1, iv cb0, .unset, .unset, .unset, .unset, .unset, .unset, .unset, .unset, .unset, .unset] [(.int cb)])) _
    refine XS.bipush X0.here hx rfl (hb hby at_83) ?_
    show Steps p.tables e below (s₁.setTop (mkF m 85 #[iv p0, iv p1, iv p2, iv p3, iv p4, iv p5, iv ra, iv rb, iv ib, iv cb, iv ca0, iv ca1, iv cb0, .unset, .unset, .unset, .unset, .unset, .unset, .unset, .unset, .unset, .unset] [(.int (8 : Int32)), (.int cb)])) _
    refine XS.iushr X0.here hx rfl (hb hby at_85) rfl ?_
    show Steps p.tables e below (s₁.setTop (mkF m 86 #[iv p0, iv p1, iv p2, iv p3, iv p4, iv p5, iv ra, iv rb, iv ib, iv cb, iv ca0, iv ca1, iv cb0, .unset, .unset, .unset, .unset, .unset, .unset, .unset, .unset, .unset, .unset] [(.int ((cb.toUInt32 >>> ((8 : Int32) &&& 31).toUInt32).toInt32))])) _
    refine XS.sipush X0.here hx rfl (hb hby at_86) ?_
    show Steps p.tables e below (s₁.setTop (mkF m 89 #[iv p0, iv p1, iv p2, iv p3, iv p4, iv p5, iv ra, iv rb, iv ib, iv cb, iv ca0, iv ca1, iv cb0, .unset, .unset, .unset, .unset, .unset, .unset, .unset, .unset, .unset, .unset] [(.int (255 : Int32)), (.int ((cb.toUInt32 >>> ((8 : Int32) &&& 31).toUInt32).toInt32))])) _
    refine XS.iand X0.here hx rfl (hb hby at_89) rfl ?_
    show Steps p.tables e below (s₁.setTop (mkF m 90 #[iv p0, iv p1, iv p2, iv p3, iv p4, iv p5, iv ra, iv rb, iv ib, iv cb, iv ca0, iv ca1, iv cb0, .unset, .unset, .unset, .unset, .unset, .unset, .unset, .unset, .unset, .unset] [(.int (((cb.toUInt32 >>> ((8 : Int32) &&& 31).toUInt32).toInt32) &&& (255 : Int32)))])) _
    refine XS.i2c X0.here hx rfl (hb hby at_90) rfl ?_
    show Steps p.tables e below (s₁.setTop (mkF m 91 #[iv p0, iv p1, iv p2, iv p3, iv p4, iv p5, iv ra, iv rb, iv ib, iv cb, iv ca0, iv ca1, iv cb0, .unset, .unset, .unset, .unset, .unset, .unset, .unset, .unset, .unset, .unset] [(.int ((((cb.toUInt32 >>> ((8 : Int32) &&& 31).toUInt32).toInt32) &&& (255 : Int32)).toUInt32.toUInt16.toUInt32.toInt32))])) _
    refine XS.istore X0.here hx rfl (hb hby at_91) rfl (l' := #[iv p0, iv p1, iv p2, iv p3, iv p4, iv p5, iv ra, iv rb, iv ib, iv cb, iv ca0, iv ca1, iv cb0, iv ((((cb.toUInt32 >>> ((8 : Int32) &&& 31).toUInt32).toInt32) &&& (255 : Int32)).toUInt32.toUInt16.toUInt32.toInt32), .unset, .unset, .unset, .unset, .unset, .unset, .unset, .unset, .unset]) rfl ?_
    show Steps p.tables e below (s₁.setTop (mkF m 93 #[iv p0, iv p1, iv p2, iv p3, iv p4, iv p5, iv ra, iv rb, iv ib, iv cb, iv ca0, iv ca1, iv cb0, iv ((((cb.toUInt32 >>> ((8 : Int32) &&& 31).toUInt32).toInt32) &&& (255 : Int32)).toUInt32.toUInt16.toUInt32.toInt32), .unset, .unset, .unset, .unset, .unset, .unset, .unset, .unset, .unset] [])) _
    rw [← h_cb1]
    show Steps p.tables e below (s₁.setTop (mkF m 93 #[iv p0, iv p1, iv p2, iv p3, iv p4, iv p5, iv ra, iv rb, iv ib, iv cb, iv ca0, iv ca1, iv cb0, iv cb1, .unset, .unset, .unset, .unset, .unset, .unset, .unset, .unset, .unset] [])) _
    refine XS.iload X0.here hx rfl (hb hby at_93) rfl ?_
    show Steps p.tables e below (s₁.setTop (mkF m 95 #[iv p0, iv p1, iv p2, iv p3, iv p4, iv p5, iv ra, iv rb, iv ib, iv cb, iv ca0, iv ca1, iv cb0, iv cb1, .unset, .unset, .unset, .unset, .unset, .unset, .unset, .unset, .unset] [(.int p5)])) _
    refine XS.bipush X0.here hx rfl (hb hby at_95) ?_
    show Steps p.tables e below (s₁.setTop (mkF m 97 #[iv p0, iv p1, iv p2, iv p3, iv p4, iv p5, iv ra, iv rb, iv ib, iv cb, iv ca0, iv ca1, iv cb0, iv cb1, .unset, .unset, .unset, .unset, .unset, .unset, .unset, .unset, .unset] [(.int (8 : Int32)), (.int p5)])) _
    refine XS.iand X0.here hx rfl (hb hby at_97) rfl ?_
    exact kt
  by_cases hc98 : (p5 &&& (8 : Int32)) = (0 : Int32)
  · have pre20 : ∀ t, Steps p.tables e below (s₁.setTop (mkF m 113 #[iv p0, iv p1, iv p2, iv p3, iv p4, iv p5, iv ra, iv rb, iv ib, iv cb, iv ca0, iv ca1, iv cb0, iv cb1, iv (0 : Int32), .unset, .unset, .unset, .unset, .unset, .unset, .unset, .unset] [(.int (p5 &&& (16 : Int32)))])) t → Steps p.tables e below (s₁.setTop (entryFrame m #[(.int p0), (.int p1), (.int p2), (.int p3), (.int p4), (.int p5)] maxLocals)) t := by
      intro t kt
      refine pre19 _ ?_
      show Steps p.tables e below (s₁.setTop (mkF m 98 #[iv p0, iv p1, iv p2, iv p3, iv p4, iv p5, iv ra, iv rb, iv ib, iv cb, iv ca0, iv ca1, iv cb0, iv cb1, .unset, .unset, .unset, .unset, .unset, .unset, .unset, .unset, .unset] [(.int (p5 &&& (8 : Int32)))])) _
      refine XS.ifYes X0.here hx rfl (pc0 := 98) (pc' := 105) rfl (hb hby at_98) rfl ((if0 _ _).trans (teq hc98).1) (by decide) (by decide) ?_
      show Steps p.tables e below (s₁.setTop (mkF m 105 #[iv p0, iv p1, iv p2, iv p3, iv p4, iv p5, iv ra, iv rb, iv ib, iv cb, iv ca0, iv ca1, iv cb0, iv cb1, .unset, .unset, .unset, .unset, .unset, .unset, .unset, .unset, .unset] [])) _
      refine XS.iconst X0.here hx rfl (hb hby at_105) ?_
      show Steps p.tables e below (s₁.setTop (mkF m 106 #[iv p0, iv p1, iv p2, iv p3, iv p4, iv p5, iv ra, iv rb, iv ib, iv cb, iv ca0, iv ca1, iv cb0, iv cb1, .unset, .unset, .unset, .unset, .unset, .unset, .unset, .unset, .unset] [(.int (0 : Int32))])) _
      refine XS.istore X0.here hx rfl (hb hby at_106) rfl (l' := #[iv p0, iv p1, iv p2, iv p3, iv p4, iv p5, iv ra, iv rb, iv ib, iv cb, iv ca0, iv ca1, iv cb0, iv cb1, iv (0 : Int32), .unset, .unset, .unset, .unset, .unset, .unset, .unset, .unset]) rfl ?_
      show Steps p.tables e below (s₁.setTop (mkF m 108 #[iv p0, iv p1, iv p2, iv p3, iv p4, iv p5, iv ra, iv rb, iv ib, iv cb, iv ca0, iv ca1, iv cb0, iv cb1, iv (0 : Int32), .unset, .unset, .unset, .unset, .unset, .unset, .unset, .unset] [])) _
      refine XS.iload X0.here hx rfl (hb hby at_108) rfl ?_
      show Steps p.tables e below (s₁.setTop (mkF m 110 #[iv p0, iv p1, iv p2, iv p3, iv p4, iv p5, iv ra, iv rb, iv ib, iv cb, iv ca0, iv ca1, iv cb0, iv cb1, iv (0 : Int32), .unset, .unset, .unset, .unset, .unset, .unset, .unset, .unset] [(.int p5)])) _
      refine XS.bipush X0.here hx rfl (hb hby at_110) ?_
      show Steps p.tables e below (s₁.setTop (mkF m 112 #[iv p0, iv p1, iv p2, iv p3, iv p4, iv p5, iv ra, iv rb, iv ib, iv cb, iv ca0, iv ca1, iv cb0, iv cb1, iv (0 : Int32), .unset, .unset, .unset, .unset, .unset, .unset, .unset, .unset] [(.int (16 : Int32)), (.int p5)])) _
      refine XS.iand X0.here hx rfl (hb hby at_112) rfl ?_
      exact kt
    by_cases hc113 : (p5 &&& (16 : Int32)) = (0 : Int32)
    · have pre21 : ∀ t, Steps p.tables e below (s₁.setTop (mkF m 129 #[iv p0, iv p1, iv p2, iv p3, iv p4, iv p5, iv ra, iv rb, iv ib, iv cb, iv ca0, iv ca1, iv cb0, iv cb1, iv (0 : Int32), iv (0 : Int32), .unset, .unset, .unset, .unset, .unset, .unset, .unset] [(.int ca1), (.int ca0), (.int (0 : Int32))])) t → Steps p.tables e below (s₁.setTop (entryFrame m #[(.int p0), (.int p1), (.int p2), (.int p3), (.int p4), (.int p5)] maxLocals)) t := by
        intro t kt
        refine pre20 _ ?_
        show Steps p.tables e below (s₁.setTop (mkF m 113 #[iv p0, iv p1, iv p2, iv p3, iv p4, iv p5, iv ra, iv rb, iv ib, iv cb, iv ca0, iv ca1, iv cb0, iv cb1, iv (0 : Int32), .unset, .unset, .unset, .unset, .unset, .unset, .unset, .unset] [(.int (p5 &&& (16 : Int32)))])) _
        refine XS.ifYes X0.here hx rfl (pc0 := 113) (pc' := 120) rfl (hb hby at_113) rfl ((if0 _ _).trans (teq hc113).1) (by decide) (by decide) ?_
        show Steps p.tables e below (s₁.setTop (mkF m 120 #[iv p0, iv p1, iv p2, iv p3, iv p4, iv p5, iv ra, iv rb, iv ib, iv cb, iv ca0, iv ca1, iv cb0, iv cb1, iv (0 : Int32), .unset, .unset, .unset, .unset, .unset, .unset, .unset, .unset] [])) _
        refine XS.iconst X0.here hx rfl (hb hby at_120) ?_
        show Steps p.tables e below (s₁.setTop (mkF m 121 #[iv p0, iv p1, iv p2, iv p3, iv p4, iv p5, iv ra, iv rb, iv ib, iv cb, iv ca0, iv ca1, iv cb0, iv cb1, iv (0 : Int32), .unset, .unset, .unset, .unset, .unset, .unset, .unset, .unset] [(.int (0 : Int32))])) _
        refine XS.istore X0.here hx rfl (hb hby at_121) rfl (l' := #[iv p0, iv p1, iv p2, iv p3, iv p4, iv p5, iv ra, iv rb, iv ib, iv cb, iv ca0, iv ca1, iv cb0, iv cb1, iv (0 : Int32), iv (0 : Int32), .unset, .unset, .unset, .unset, .unset, .unset, .unset]) rfl ?_
        show Steps p.tables e below (s₁.setTop (mkF m 123 #[iv p0, iv p1, iv p2, iv p3, iv p4, iv p5, iv ra, iv rb, iv ib, iv cb, iv ca0, iv ca1, iv cb0, iv cb1, iv (0 : Int32), iv (0 : Int32), .unset, .unset, .unset, .unset, .unset, .unset, .unset] [])) _
        refine XS.iload X0.here hx rfl (hb hby at_123) rfl ?_
        show Steps p.tables e below (s₁.setTop (mkF m 125 #[iv p0, iv p1, iv p2, iv p3, iv p4, iv p5, iv ra, iv rb, iv ib, iv cb, iv ca0, iv ca1, iv cb0, iv cb1, iv (0 : Int32), iv (0 : Int32), .unset, .unset, .unset, .unset, .unset, .unset, .unset] [(.int (0 : Int32))])) _
        refine XS.iload X0.here hx rfl (hb hby at_125) rfl ?_
        show Steps p.tables e below (s₁.setTop (mkF m 127 #[iv p0, iv p1, iv p2, iv p3, iv p4, iv p5, iv ra, iv rb, iv ib, iv cb, iv ca0, iv ca1, iv cb0, iv cb1, iv (0 : Int32), iv (0 : Int32), .unset, .unset, .unset, .unset, .unset, .unset, .unset] [(.int ca0), (.int (0 : Int32))])) _
        refine XS.iload X0.here hx rfl (hb hby at_127) rfl ?_
        exact kt
      obtain ⟨_, _, ⟨T22, L22, k22, n22⟩, -, X22, ⟨Lc22, hQ22, l22, y22, z22⟩, st22⟩ := Jvm.LawKit.callS X0 hx (y := (⟨"com/example/fair_witness/fairwitness/verifier/DecodingFailureEqualsPinLaw", "text", "(ZCC)Ljava/lang/String;"⟩ : MethodName)) hown (mvT hZ (hw _ (List.mem_of_getElem? (i := 0) rfl))) (mvT hZ (hw _ (List.mem_of_getElem? (i := 1) rfl))) (mvT hZ (hw _ (List.mem_of_getElem? (i := 2) rfl))) (mvT hZ (hw _ (List.mem_of_getElem? (i := 3) rfl))) (by decide) (backOf (W := 0) (rm1l l Z a0 hw [] ca0 ca1 cs h0 n0 (Nat.le_trans Z0 (Keep.refl h0 []).1) (O0.keep (Keep.refl h0 []) all0) S_cs hcs (h_ca0 ▸ own_ch _).1 (h_ca1 ▸ own_ch _).1 (h_ca0 ▸ own_ch _).2.1 (h_ca1 ▸ own_ch _).2.1) hZ (hw _ (List.mem_of_getElem? (i := 3) rfl)) (hw _ (List.mem_of_getElem? (i := 2) rfl)) (by decide) (by decide)) (g := (mkF m 129 #[iv p0, iv p1, iv p2, iv p3, iv p4, iv p5, iv ra, iv rb, iv ib, iv cb, iv ca0, iv ca1, iv cb0, iv cb1, iv (0 : Int32), iv (0 : Int32), .unset, .unset, .unset, .unset, .unset, .unset, .unset] [(.int ca1), (.int ca0), (.int (0 : Int32))])) rfl (by rw [hml]; rfl) (argsL := [(.int (0 : Int32)), (.int ca0), (.int ca1)]) (rest := []) (lenOf pd16 rfl) rfl (by show 2 * 0 + _ ≤ _; exact Nat.le_of_eq rfl) (hb hby at_129) (fun _ _ => ⟨rfl, e0, (by decide : 0 + 3 ≤ _), (by decide : 0 + 8 ≤ _)⟩)
      dsimp only [Pt.U, Pt.locs, Pt.cells, Pt.slots] at X22 l22 y22 z22 st22 hQ22
      subst l22 y22 z22
      obtain ⟨x22, y22, ky22, rfl, N22q, Kc22, hx22, hy22, Ex22, Fv22, Fc22, Vy22⟩ := hQ22
      have N22 := Fr.app N0 N22q
      have K22 : Keep h0 T22.heap [] := (Keep.refl h0 []).trans Kc22 all0
      have g_x22 : n0 ≤ x22 := Nat.le_trans (Nat.le_trans Z0 (Keep.refl h0 []).1) hx22
      have sz_x22 : h0.size ≤ x22 := Nat.le_trans (Keep.refl h0 []).1 hx22
      have g_y22 : n0 ≤ y22 := Nat.le_trans (Nat.le_trans Z0 (Keep.refl h0 []).1) hy22
      have sz_y22 : h0.size ≤ y22 := Nat.le_trans (Keep.refl h0 []).1 hy22
      have pre23 : ∀ t, Steps p.tables e below (T22.setTop (mkF m 140 #[iv p0, iv p1, iv p2, iv p3, iv p4, iv p5, iv ra, iv rb, iv ib, iv cb, iv ca0, iv ca1, iv cb0, iv cb1, iv (0 : Int32), iv (0 : Int32), rv x22, .unset, .unset, .unset, .unset, .unset, .unset] [(.int cb1), (.int cb0), (.int (0 : Int32))])) t → Steps p.tables e below (s₁.setTop (entryFrame m #[(.int p0), (.int p1), (.int p2), (.int p3), (.int p4), (.int p5)] maxLocals)) t := by
        intro t kt
        refine pre21 _ ?_
        show Steps p.tables e below (s₁.setTop (mkF m 129 #[iv p0, iv p1, iv p2, iv p3, iv p4, iv p5, iv ra, iv rb, iv ib, iv cb, iv ca0, iv ca1, iv cb0, iv cb1, iv (0 : Int32), iv (0 : Int32), .unset, .unset, .unset, .unset, .unset, .unset, .unset] [(.int ca1), (.int ca0), (.int (0 : Int32))])) _
        refine st22 _ ?_
        show Steps p.tables e below (T22.setTop (mkF m 132 #[iv p0, iv p1, iv p2, iv p3, iv p4, iv p5, iv ra, iv rb, iv ib, iv cb, iv ca0, iv ca1, iv cb0, iv cb1, iv (0 : Int32), iv (0 : Int32), .unset, .unset, .unset, .unset, .unset, .unset, .unset] [(.ref x22)])) _
        refine XS.astore X22.here hx rfl (hb hby at_132) rfl rfl (l' := #[iv p0, iv p1, iv p2, iv p3, iv p4, iv p5, iv ra, iv rb, iv ib, iv cb, iv ca0, iv ca1, iv cb0, iv cb1, iv (0 : Int32), iv (0 : Int32), rv x22, .unset, .unset, .unset, .unset, .unset, .unset]) rfl ?_
        show Steps p.tables e below (T22.setTop (mkF m 134 #[iv p0, iv p1, iv p2, iv p3, iv p4, iv p5, iv ra, iv rb, iv ib, iv cb, iv ca0, iv ca1, iv cb0, iv cb1, iv (0 : Int32), iv (0 : Int32), rv x22, .unset, .unset, .unset, .unset, .unset, .unset] [])) _
        refine XS.iload X22.here hx rfl (hb hby at_134) rfl ?_
        show Steps p.tables e below (T22.setTop (mkF m 136 #[iv p0, iv p1, iv p2, iv p3, iv p4, iv p5, iv ra, iv rb, iv ib, iv cb, iv ca0, iv ca1, iv cb0, iv cb1, iv (0 : Int32), iv (0 : Int32), rv x22, .unset, .unset, .unset, .unset, .unset, .unset] [(.int (0 : Int32))])) _
        refine XS.iload X22.here hx rfl (hb hby at_136) rfl ?_
        show Steps p.tables e below (T22.setTop (mkF m 138 #[iv p0, iv p1, iv p2, iv p3, iv p4, iv p5, iv ra, iv rb, iv ib, iv cb, iv ca0, iv ca1, iv cb0, iv cb1, iv (0 : Int32), iv (0 : Int32), rv x22, .unset, .unset, .unset, .unset, .unset, .unset] [(.int cb0), (.int (0 : Int32))])) _
        refine XS.iload X22.here hx rfl (hb hby at_138) rfl ?_
        exact kt
      obtain ⟨_, _, ⟨T24, L24, k24, n24⟩, -, X24, ⟨Lc24, hQ24, l24, y24, z24⟩, st24⟩ := Jvm.LawKit.callS X22 hx (y := (⟨"com/example/fair_witness/fairwitness/verifier/DecodingFailureEqualsPinLaw", "text", "(ZCC)Ljava/lang/String;"⟩ : MethodName)) hown (mvT hZ (hw _ (List.mem_of_getElem? (i := 0) rfl))) (mvT hZ (hw _ (List.mem_of_getElem? (i := 1) rfl))) (mvT hZ (hw _ (List.mem_of_getElem? (i := 2) rfl))) (mvT hZ (hw _ (List.mem_of_getElem? (i := 3) rfl))) (by decide) (backOf (W := 0) (rm1l l Z a0 hw [] cb0 cb1 cs T22.heap n0 (Nat.le_trans Z0 K22.1) (O0.keep K22 all0) S_cs hcs (h_cb0 ▸ own_ch _).1 (h_cb1 ▸ own_ch _).1 (h_cb0 ▸ own_ch _).2.1 (h_cb1 ▸ own_ch _).2.1) hZ (hw _ (List.mem_of_getElem? (i := 3) rfl)) (hw _ (List.mem_of_getElem? (i := 2) rfl)) (by decide) (by decide)) (g := (mkF m 140 #[iv p0, iv p1, iv p2, iv p3, iv p4, iv p5, iv ra, iv rb, iv ib, iv cb, iv ca0, iv ca1, iv cb0, iv cb1, iv (0 : Int32), iv (0 : Int32), rv x22, .unset, .unset, .unset, .unset, .unset, .unset] [(.int cb1), (.int cb0), (.int (0 : Int32))])) rfl (by rw [hml]; rfl) (argsL := [(.int (0 : Int32)), (.int cb0), (.int cb1)]) (rest := []) (lenOf pd16 rfl) rfl (by show 2 * 0 + _ ≤ _; exact Nat.le_of_eq rfl) (hb hby at_140) (fun _ _ => ⟨rfl, rfl, (by decide : 3 + 3 ≤ _), (by decide : 8 + 8 ≤ _)⟩)
      dsimp only [Pt.U, Pt.locs, Pt.cells, Pt.slots] at X24 l24 y24 z24 st24 hQ24
      subst l24 y24 z24
      obtain ⟨x24, y24, ky24, rfl, N24q, Kc24, hx24, hy24, Ex24, Fv24, Fc24, Vy24⟩ := hQ24
      have N24 := Fr.app N22 N24q
      have K24 : Keep h0 T24.heap [] := K22.trans Kc24 all0
      have g_x24 : n0 ≤ x24 := Nat.le_trans (Nat.le_trans Z0 K22.1) hx24
      have sz_x24 : h0.size ≤ x24 := Nat.le_trans K22.1 hx24
      have g_y24 : n0 ≤ y24 := Nat.le_trans (Nat.le_trans Z0 K22.1) hy24
      have sz_y24 : h0.size ≤ y24 := Nat.le_trans K22.1 hy24
      have ne_x22_x24 : x22 ≠ x24 := Nat.ne_of_lt (Nat.lt_of_lt_of_le Ex22.lt hx24)
      have pre25 : ∀ t, Steps p.tables e below (T24.setTop (mkF m 145 #[iv p0, iv p1, iv p2, iv p3, iv p4, iv p5, iv ra, iv rb, iv ib, iv cb, iv ca0, iv ca1, iv cb0, iv cb1, iv (0 : Int32), iv (0 : Int32), rv x22, rv x24, .unset, .unset, .unset, .unset, .unset] [])) t → Steps p.tables e below (s₁.setTop (entryFrame m #[(.int p0), (.int p1), (.int p2), (.int p3), (.int p4), (.int p5)] maxLocals)) t := by
        intro t kt
        refine pre23 _ ?_
        show Steps p.tables e below (T22.setTop (mkF m 140 #[iv p0, iv p1, iv p2, iv p3, iv p4, iv p5, iv ra, iv rb, iv ib, iv cb, iv ca0, iv ca1, iv cb0, iv cb1, iv (0 : Int32), iv (0 : Int32), rv x22, .unset, .unset, .unset, .unset, .unset, .unset] [(.int cb1), (.int cb0), (.int (0 : Int32))])) _
        refine st24 _ ?_
        show Steps p.tables e below (T24.setTop (mkF m 143 #[iv p0, iv p1, iv p2, iv p3, iv p4, iv p5, iv ra, iv rb, iv ib, iv cb, iv ca0, iv ca1, iv cb0, iv cb1, iv (0 : Int32), iv (0 : Int32), rv x22, .unset, .unset, .unset, .unset, .unset, .unset] [(.ref x24)])) _
        refine XS.astore X24.here hx rfl (hb hby at_143) rfl rfl (l' := #[iv p0, iv p1, iv p2, iv p3, iv p4, iv p5, iv ra, iv rb, iv ib, iv cb, iv ca0, iv ca1, iv cb0, iv cb1, iv (0 : Int32), iv (0 : Int32), rv x22, rv x24, .unset, .unset, .unset, .unset, .unset]) rfl ?_
        exact kt
      obtain ⟨T26, h26, X26, e26, E26, A26, D26, -, st26⟩ := newO X24 hx hZ hown (hw _ (List.mem_of_getElem? (i := 34) rfl)) (hw _ (List.mem_of_getElem? (i := 35) rfl)) (hw _ (List.mem_of_getElem? (i := 36) rfl)) rfl (g := (mkF m 145 #[iv p0, iv p1, iv p2, iv p3, iv p4, iv p5, iv ra, iv rb, iv ib, iv cb, iv ca0, iv ca1, iv cb0, iv cb1, iv (0 : Int32), iv (0 : Int32), rv x22, rv x24, .unset, .unset, .unset, .unset, .unset] [])) rfl (hb hby at_145) (by decide) (by decide)
      obtain ⟨b26, g26⟩ : ∃ z, z = T24.heap.size := ⟨_, rfl⟩
      rw [← g26] at A26 D26 st26
      have g_b26 : n0 ≤ b26 := Nat.le_trans (Nat.le_trans Z0 K24.1) (Nat.le_of_eq g26.symm)
      have sz_b26 : h0.size ≤ b26 := Nat.le_trans K24.1 (Nat.le_of_eq g26.symm)
      have F_reason_b26 : Fld Z h26 b26 "com/example/fair_witness/fairwitness/verifier/DecodingFailure" "reason" "Lcom/example/fair_witness/fairwitness/verifier/Reason;" .null := D26 (Or.inr (hw _ (List.mem_of_getElem? (i := 48) rfl))) (ty := (.object "com/example/fair_witness/fairwitness/verifier/Reason")) (by decide)
      have F_certificateIndex_b26 : Fld Z h26 b26 "com/example/fair_witness/fairwitness/verifier/DecodingFailure" "certificateIndex" "I" (.int (0 : Int32)) := D26 (Or.inr (hw _ (List.mem_of_getElem? (i := 50) rfl))) (ty := .int) (by decide)
      have F_detail_b26 : Fld Z h26 b26 "com/example/fair_witness/fairwitness/verifier/DecodingFailure" "detail" "Ljava/lang/String;" .null := D26 (Or.inr (hw _ (List.mem_of_getElem? (i := 52) rfl))) (ty := (.object "java/lang/String")) (by decide)
      have K26 : Keep h0 h26 [] := K24.ext E26
      have pre27 : ∀ t, Steps p.tables e below (T26.setTop (mkF m 151 #[iv p0, iv p1, iv p2, iv p3, iv p4, iv p5, iv ra, iv rb, iv ib, iv cb, iv ca0, iv ca1, iv cb0, iv cb1, iv (0 : Int32), iv (0 : Int32), rv x22, rv x24, .unset, .unset, .unset, .unset, .unset] [(.int ra), (.ref b26), (.ref b26)])) t → Steps p.tables e below (s₁.setTop (entryFrame m #[(.int p0), (.int p1), (.int p2), (.int p3), (.int p4), (.int p5)] maxLocals)) t := by
        intro t kt
        refine pre25 _ ?_
        show Steps p.tables e below (T24.setTop (mkF m 145 #[iv p0, iv p1, iv p2, iv p3, iv p4, iv p5, iv ra, iv rb, iv ib, iv cb, iv ca0, iv ca1, iv cb0, iv cb1, iv (0 : Int32), iv (0 : Int32), rv x22, rv x24, .unset, .unset, .unset, .unset, .unset] [])) _
        refine st26 _ ?_
        show Steps p.tables e below (T26.setTop (mkF m 148 #[iv p0, iv p1, iv p2, iv p3, iv p4, iv p5, iv ra, iv rb, iv ib, iv cb, iv ca0, iv ca1, iv cb0, iv cb1, iv (0 : Int32), iv (0 : Int32), rv x22, rv x24, .unset, .unset, .unset, .unset, .unset] [(.ref b26)])) _
        refine XS.dup X26.here hx rfl (hb hby at_148) rfl rfl ?_
        show Steps p.tables e below (T26.setTop (mkF m 149 #[iv p0, iv p1, iv p2, iv p3, iv p4, iv p5, iv ra, iv rb, iv ib, iv cb, iv ca0, iv ca1, iv cb0, iv cb1, iv (0 : Int32), iv (0 : Int32), rv x22, rv x24, .unset, .unset, .unset, .unset, .unset] [(.ref b26), (.ref b26)])) _
        refine XS.iload X26.here hx rfl (hb hby at_149) rfl ?_
        exact kt
      obtain ⟨_, _, ⟨T28, L28, k28, n28⟩, -, X28, ⟨Lc28, hQ28, l28, y28, z28⟩, st28⟩ := Jvm.LawKit.callS X26 hx (y := (⟨"com/example/fair_witness/fairwitness/verifier/DecodingFailureEqualsPinLaw", "reason", "(I)Lcom/example/fair_witness/fairwitness/verifier/Reason;"⟩ : MethodName)) hown (mvT hZ (hw _ (List.mem_of_getElem? (i := 37) rfl))) (mvT hZ (hw _ (List.mem_of_getElem? (i := 38) rfl))) (mvT hZ (hw _ (List.mem_of_getElem? (i := 2) rfl))) (mvT hZ (hw _ (List.mem_of_getElem? (i := 39) rfl))) (by decide) (backOf (W := 2) (rm8 l Z a0 hw [] ra aK aP aS aR h26 n0 (Nat.le_trans Z0 K26.1) (O0.keep K26 all0) S_KEY_DESCRIPTION_INVALID S_PROVISIONING_INFO_INVALID S_SIGNATURE_INVALID S_ROOT_NOT_TRUSTED) hZ (hw _ (List.mem_of_getElem? (i := 39) rfl)) (hw _ (List.mem_of_getElem? (i := 2) rfl)) (by decide) (by decide)) (g := (mkF m 151 #[iv p0, iv p1, iv p2, iv p3, iv p4, iv p5, iv ra, iv rb, iv ib, iv cb, iv ca0, iv ca1, iv cb0, iv cb1, iv (0 : Int32), iv (0 : Int32), rv x22, rv x24, .unset, .unset, .unset, .unset, .unset] [(.int ra), (.ref b26), (.ref b26)])) rfl (by rw [hml]; rfl) (argsL := [(.int ra)]) (rest := [(.ref b26), (.ref b26)]) (lenOf pd17 rfl) rfl (by show 2 * 0 + _ ≤ _; exact Nat.le_of_eq rfl) (hb hby at_151) (fun _ _ => ⟨rfl, e26, (by decide : 7 + 0 ≤ _), (by decide : 19 + 0 ≤ _)⟩)
      dsimp only [Pt.U, Pt.locs, Pt.cells, Pt.slots] at X28 l28 y28 z28 st28 hQ28
      subst l28 y28 z28
      obtain ⟨rfl, N28q, hh28⟩ := hQ28
      have N28 := Fr.app N24 N28q
      have pre29 : ∀ t, Steps p.tables e below (T28.setTop (mkF m 157 #[iv p0, iv p1, iv p2, iv p3, iv p4, iv p5, iv ra, iv rb, iv ib, iv cb, iv ca0, iv ca1, iv cb0, iv cb1, iv (0 : Int32), iv (0 : Int32), rv x22, rv x24, .unset, .unset, .unset, .unset, .unset] [(.ref x22), (.int p1), (.ref (own_rs aK aP aS aR ra)), (.ref b26), (.ref b26)])) t → Steps p.tables e below (s₁.setTop (entryFrame m #[(.int p0), (.int p1), (.int p2), (.int p3), (.int p4), (.int p5)] maxLocals)) t := by
        intro t kt
        refine pre27 _ ?_
        show Steps p.tables e below (T26.setTop (mkF m 151 #[iv p0, iv p1, iv p2, iv p3, iv p4, iv p5, iv ra, iv rb, iv ib, iv cb, iv ca0, iv ca1, iv cb0, iv cb1, iv (0 : Int32), iv (0 : Int32), rv x22, rv x24, .unset, .unset, .unset, .unset, .unset] [(.int ra), (.ref b26), (.ref b26)])) _
        refine st28 _ ?_
        show Steps p.tables e below (T28.setTop (mkF m 154 #[iv p0, iv p1, iv p2, iv p3, iv p4, iv p5, iv ra, iv rb, iv ib, iv cb, iv ca0, iv ca1, iv cb0, iv cb1, iv (0 : Int32), iv (0 : Int32), rv x22, rv x24, .unset, .unset, .unset, .unset, .unset] [(.ref (own_rs aK aP aS aR ra)), (.ref b26), (.ref b26)])) _
        refine XS.iloadN X28.here hx rfl (hb hby at_154) rfl ?_
        show Steps p.tables e below (T28.setTop (mkF m 155 #[iv p0, iv p1, iv p2, iv p3, iv p4, iv p5, iv ra, iv rb, iv ib, iv cb, iv ca0, iv ca1, iv cb0, iv cb1, iv (0 : Int32), iv (0 : Int32), rv x22, rv x24, .unset, .unset, .unset, .unset, .unset] [(.int p1), (.ref (own_rs aK aP aS aR ra)), (.ref b26), (.ref b26)])) _
        refine XS.aload X28.here hx rfl (hb hby at_155) rfl rfl ?_
        exact kt
      obtain ⟨_, _, ⟨T30, L30, k30, n30⟩, -, X30, ⟨Lc30, hQ30, l30, y30, z30⟩, st30⟩ := X28.specialBack hx (y := (⟨"com/example/fair_witness/fairwitness/verifier/DecodingFailure", "<init>", "(Lcom/example/fair_witness/fairwitness/verifier/Reason;ILjava/lang/String;)V"⟩ : MethodName)) rfl hown (mvT hZ (hw _ (List.mem_of_getElem? (i := 43) rfl))) (mvT hZ (hw _ (List.mem_of_getElem? (i := 44) rfl))) (mvT hZ (hw _ (List.mem_of_getElem? (i := 45) rfl))) (by decide) (backOf (W := 1) (rm9 l Z a0 hw [] b26 (own_rs aK aP aS aR ra) p1 x22 h26 n0 (Nat.le_trans Z0 K26.1) F_reason_b26 F_certificateIndex_b26 F_detail_b26 A26 g_b26) hZ (hw _ (List.mem_of_getElem? (i := 45) rfl)) (hw _ (List.mem_of_getElem? (i := 36) rfl)) (by decide) (by decide)) (g := (mkF m 157 #[iv p0, iv p1, iv p2, iv p3, iv p4, iv p5, iv ra, iv rb, iv ib, iv cb, iv ca0, iv ca1, iv cb0, iv cb1, iv (0 : Int32), iv (0 : Int32), rv x22, rv x24, .unset, .unset, .unset, .unset, .unset] [(.ref x22), (.int p1), (.ref (own_rs aK aP aS aR ra)), (.ref b26), (.ref b26)])) rfl (by rw [hml]; rfl) (Steps.refl _) (a := b26) (argsL := [(.ref (own_rs aK aP aS aR ra)), (.int p1), (.ref x22)]) (rest := [(.ref b26)]) (lenOf pd18 rfl) rfl (by show 2 * 0 + _ ≤ _; exact Nat.le_of_eq rfl) (hb hby at_157) (fun _ _ => ⟨rfl, hh28, (by decide : 7 + 0 ≤ _), (by decide : 19 + 0 ≤ _)⟩)
      dsimp only [Pt.U, Pt.locs, Pt.cells, Pt.slots] at X30 l30 y30 z30 st30 hQ30
      subst l30 y30 z30
      obtain ⟨rfl, N30q, Kc30, F0_30, F1_30, F2_30⟩ := hQ30
      have N30 := Fr.app N28 N30q
      have K30 : Keep h0 T30.heap [] := K26.trans Kc30 (allS (Or.inr sz_b26) all0)
      have pre31 : ∀ t, Steps p.tables e below (T30.setTop (mkF m 172 #[iv p0, iv p1, iv p2, iv p3, iv p4, iv p5, iv ra, iv rb, iv ib, iv cb, iv ca0, iv ca1, iv cb0, iv cb1, iv (0 : Int32), iv (0 : Int32), rv x22, rv x24, rv b26, iv (((p5.toUInt32 >>> ((5 : Int32) &&& 31).toUInt32).toInt32) &&& (3 : Int32)), .unset, .unset, .unset] [(.int (((p5.toUInt32 >>> ((5 : Int32) &&& 31).toUInt32).toInt32) &&& (3 : Int32)))])) t → Steps p.tables e below (s₁.setTop (entryFrame m #[(.int p0), (.int p1), (.int p2), (.int p3), (.int p4), (.int p5)] maxLocals)) t := by
        intro t kt
        refine pre29 _ ?_
        show Steps p.tables e below (T28.setTop (mkF m 157 #[iv p0, iv p1, iv p2, iv p3, iv p4, iv p5, iv ra, iv rb, iv ib, iv cb, iv ca0, iv ca1, iv cb0, iv cb1, iv (0 : Int32), iv (0 : Int32), rv x22, rv x24, .unset, .unset, .unset, .unset, .unset] [(.ref x22), (.int p1), (.ref (own_rs aK aP aS aR ra)), (.ref b26), (.ref b26)])) _
        refine st30.trans ?_
        show Steps p.tables e below (T30.setTop (mkF m 160 #[iv p0, iv p1, iv p2, iv p3, iv p4, iv p5, iv ra, iv rb, iv ib, iv cb, iv ca0, iv ca1, iv cb0, iv cb1, iv (0 : Int32), iv (0 : Int32), rv x22, rv x24, .unset, .unset, .unset, .unset, .unset] [(.ref b26)])) _
        refine XS.astore X30.here hx rfl (hb hby at_160) rfl rfl (l' := #[iv p0, iv p1, iv p2, iv p3, iv p4, iv p5, iv ra, iv rb, iv ib, iv cb, iv ca0, iv ca1, iv cb0, iv cb1, iv (0 : Int32), iv (0 : Int32), rv x22, rv x24, rv b26, .unset, .unset, .unset, .unset]) rfl ?_
        show Steps p.tables e below (T30.setTop (mkF m 162 #[iv p0, iv p1, iv p2, iv p3, iv p4, iv p5, iv ra, iv rb, iv ib, iv cb, iv ca0, iv ca1, iv cb0, iv cb1, iv (0 : Int32), iv (0 : Int32), rv x22, rv x24, rv b26, .unset, .unset, .unset, .unset] [])) _
        refine XS.iload X30.here hx rfl (hb hby at_162) rfl ?_
        show Steps p.tables e below (T30.setTop (mkF m 164 #[iv p0, iv p1, iv p2, iv p3, iv p4, iv p5, iv ra, iv rb, iv ib, iv cb, iv ca0, iv ca1, iv cb0, iv cb1, iv (0 : Int32), iv (0 : Int32), rv x22, rv x24, rv b26, .unset, .unset, .unset, .unset] [(.int p5)])) _
        refine XS.iconst X30.here hx rfl (hb hby at_164) ?_
        show Steps p.tables e below (T30.setTop (mkF m 165 #[iv p0, iv p1, iv p2, iv p3, iv p4, iv p5, iv ra, iv rb, iv ib, iv cb, iv ca0, iv ca1, iv cb0, iv cb1, iv (0 : Int32), iv (0 : Int32), rv x22, rv x24, rv b26, .unset, .unset, .unset, .unset] [(.int (5 : Int32)), (.int p5)])) _
        refine XS.iushr X30.here hx rfl (hb hby at_165) rfl ?_
        show Steps p.tables e below (T30.setTop (mkF m 166 #[iv p0, iv p1, iv p2, iv p3, iv p4, iv p5, iv ra, iv rb, iv ib, iv cb, iv ca0, iv ca1, iv cb0, iv cb1, iv (0 : Int32), iv (0 : Int32), rv x22, rv x24, rv b26, .unset, .unset, .unset, .unset] [(.int ((p5.toUInt32 >>> ((5 : Int32) &&& 31).toUInt32).toInt32))])) _
        refine XS.iconst X30.here hx rfl (hb hby at_166) ?_
        show Steps p.tables e below (T30.setTop (mkF m 167 #[iv p0, iv p1, iv p2, iv p3, iv p4, iv p5, iv ra, iv rb, iv ib, iv cb, iv ca0, iv ca1, iv cb0, iv cb1, iv (0 : Int32), iv (0 : Int32), rv x22, rv x24, rv b26, .unset, .unset, .unset, .unset] [(.int (3 : Int32)), (.int ((p5.toUInt32 >>> ((5 : Int32) &&& 31).toUInt32).toInt32))])) _
        refine XS.iand X30.here hx rfl (hb hby at_167) rfl ?_
        show Steps p.tables e below (T30.setTop (mkF m 168 #[iv p0, iv p1, iv p2, iv p3, iv p4, iv p5, iv ra, iv rb, iv ib, iv cb, iv ca0, iv ca1, iv cb0, iv cb1, iv (0 : Int32), iv (0 : Int32), rv x22, rv x24, rv b26, .unset, .unset, .unset, .unset] [(.int (((p5.toUInt32 >>> ((5 : Int32) &&& 31).toUInt32).toInt32) &&& (3 : Int32)))])) _
        refine XS.istore X30.here hx rfl (hb hby at_168) rfl (l' := #[iv p0, iv p1, iv p2, iv p3, iv p4, iv p5, iv ra, iv rb, iv ib, iv cb, iv ca0, iv ca1, iv cb0, iv cb1, iv (0 : Int32), iv (0 : Int32), rv x22, rv x24, rv b26, iv (((p5.toUInt32 >>> ((5 : Int32) &&& 31).toUInt32).toInt32) &&& (3 : Int32)), .unset, .unset, .unset]) rfl ?_
        show Steps p.tables e below (T30.setTop (mkF m 170 #[iv p0, iv p1, iv p2, iv p3, iv p4, iv p5, iv ra, iv rb, iv ib, iv cb, iv ca0, iv ca1, iv cb0, iv cb1, iv (0 : Int32), iv (0 : Int32), rv x22, rv x24, rv b26, iv (((p5.toUInt32 >>> ((5 : Int32) &&& 31).toUInt32).toInt32) &&& (3 : Int32)), .unset, .unset, .unset] [])) _
        refine XS.iload X30.here hx rfl (hb hby at_170) rfl ?_
        exact kt
      by_cases hc172 : (((p5.toUInt32 >>> ((5 : Int32) &&& 31).toUInt32).toInt32) &&& (3 : Int32)) = (0 : Int32)
      · have pre32 : ∀ t, Steps p.tables e below (T30.setTop (mkF m 178 #[iv p0, iv p1, iv p2, iv p3, iv p4, iv p5, iv ra, iv rb, iv ib, iv cb, iv ca0, iv ca1, iv cb0, iv cb1, iv (0 : Int32), iv (0 : Int32), rv x22, rv x24, rv b26, iv (((p5.toUInt32 >>> ((5 : Int32) &&& 31).toUInt32).toInt32) &&& (3 : Int32)), .unset, .unset, .unset] [.null, (.ref b26)])) t → Steps p.tables e below (s₁.setTop (entryFrame m #[(.int p0), (.int p1), (.int p2), (.int p3), (.int p4), (.int p5)] maxLocals)) t := by
          intro t kt
          refine pre31 _ ?_
          show Steps p.tables e below (T30.setTop (mkF m 172 #[iv p0, iv p1, iv p2, iv p3, iv p4, iv p5, iv ra, iv rb, iv ib, iv cb, iv ca0, iv ca1, iv cb0, iv cb1, iv (0 : Int32), iv (0 : Int32), rv x22, rv x24, rv b26, iv (((p5.toUInt32 >>> ((5 : Int32) &&& 31).toUInt32).toInt32) &&& (3 : Int32)), .unset, .unset, .unset] [(.int (((p5.toUInt32 >>> ((5 : Int32) &&& 31).toUInt32).toInt32) &&& (3 : Int32)))])) _
          refine XS.ifNo X30.here hx rfl (hb hby at_172) rfl ((if0 _ _).trans (teq hc172).2) ?_
          show Steps p.tables e below (T30.setTop (mkF m 175 #[iv p0, iv p1, iv p2, iv p3, iv p4, iv p5, iv ra, iv rb, iv ib, iv cb, iv ca0, iv ca1, iv cb0, iv cb1, iv (0 : Int32), iv (0 : Int32), rv x22, rv x24, rv b26, iv (((p5.toUInt32 >>> ((5 : Int32) &&& 31).toUInt32).toInt32) &&& (3 : Int32)), .unset, .unset, .unset] [])) _
          refine XS.aload X30.here hx rfl (hb hby at_175) rfl rfl ?_
          show Steps p.tables e below (T30.setTop (mkF m 177 #[iv p0, iv p1, iv p2, iv p3, iv p4, iv p5, iv ra, iv rb, iv ib, iv cb, iv ca0, iv ca1, iv cb0, iv cb1, iv (0 : Int32), iv (0 : Int32), rv x22, rv x24, rv b26, iv (((p5.toUInt32 >>> ((5 : Int32) &&& 31).toUInt32).toInt32) &&& (3 : Int32)), .unset, .unset, .unset] [(.ref b26)])) _
          refine XS.aconstNull X30.here hx rfl (hb hby at_177) ?_
          exact kt
        obtain ⟨cq33, kq33, q33a, q33b, q33c⟩ := isOf hZ rfl (A26.keep Kc30)
        obtain ⟨_, _, ⟨T33, L33, k33, n33⟩, -, X33, ⟨Lc33, hQ33, l33, y33, z33⟩, st33⟩ := X30.virtualBack hx (y := (⟨"com/example/fair_witness/fairwitness/verifier/DecodingFailure", "equals", "(Ljava/lang/Object;)Z"⟩ : MethodName)) (z := (⟨"com/example/fair_witness/fairwitness/verifier/DecodingFailure", "equals", "(Ljava/lang/Object;)Z"⟩ : MethodName)) hown (mvT hZ (hw _ (List.mem_of_getElem? (i := 53) rfl))) (mvT hZ (hw _ (List.mem_of_getElem? (i := 54) rfl))) (notFace_of_selects (args := #[]) (mvT hZ (hw _ (List.mem_of_getElem? (i := 56) rfl)))) (mvT hZ (hw _ (List.mem_of_getElem? (i := 56) rfl))) (mvT hZ (hw _ (List.mem_of_getElem? (i := 55) rfl))) (by decide) (backOf (W := 0) (rm10null l Z a0 hw [] b26 T30.heap n0 (Nat.le_trans Z0 K30.1)) hZ (hw _ (List.mem_of_getElem? (i := 57) rfl)) (hw _ (List.mem_of_getElem? (i := 36) rfl)) (by decide) (by decide)) q33a q33c (g := (mkF m 178 #[iv p0, iv p1, iv p2, iv p3, iv p4, iv p5, iv ra, iv rb, iv ib, iv cb, iv ca0, iv ca1, iv cb0, iv cb1, iv (0 : Int32), iv (0 : Int32), rv x22, rv x24, rv b26, iv (((p5.toUInt32 >>> ((5 : Int32) &&& 31).toUInt32).toInt32) &&& (3 : Int32)), .unset, .unset, .unset] [.null, (.ref b26)])) rfl (by rw [hml]; rfl) (Steps.refl _) (argsL := [.null]) (rest := []) (lenOf pd15 rfl) rfl (by show 2 * 0 + _ ≤ _; exact Nat.le_of_eq rfl) (hb hby at_178) (fun _ _ => ⟨rfl, rfl, (by decide : 7 + 0 ≤ _), (by decide : 19 + 0 ≤ _)⟩)
        dsimp only [Pt.U, Pt.locs, Pt.cells, Pt.slots] at X33 l33 y33 z33 st33 hQ33
        subst l33 y33 z33
        obtain ⟨rfl, N33q, hh33⟩ := hQ33
        have N33 := Fr.app N30 N33q
        have pre34 : ∀ t, Steps p.tables e below (T33.setTop (mkF m 189 #[iv p0, iv p1, iv p2, iv p3, iv p4, iv p5, iv ra, iv rb, iv ib, iv cb, iv ca0, iv ca1, iv cb0, iv cb1, iv (0 : Int32), iv (0 : Int32), rv x22, rv x24, rv b26, iv (((p5.toUInt32 >>> ((5 : Int32) &&& 31).toUInt32).toInt32) &&& (3 : Int32)), .unset, .unset, .unset] [(.int (1 : Int32))])) t → Steps p.tables e below (s₁.setTop (entryFrame m #[(.int p0), (.int p1), (.int p2), (.int p3), (.int p4), (.int p5)] maxLocals)) t := by
          intro t kt
          refine pre32 _ ?_
          show Steps p.tables e below (T30.setTop (mkF m 178 #[iv p0, iv p1, iv p2, iv p3, iv p4, iv p5, iv ra, iv rb, iv ib, iv cb, iv ca0, iv ca1, iv cb0, iv cb1, iv (0 : Int32), iv (0 : Int32), rv x22, rv x24, rv b26, iv (((p5.toUInt32 >>> ((5 : Int32) &&& 31).toUInt32).toInt32) &&& (3 : Int32)), .unset, .unset, .unset] [.null, (.ref b26)])) _
          refine st33.trans ?_
          show Steps p.tables e below (T33.setTop (mkF m 181 #[iv p0, iv p1, iv p2, iv p3, iv p4, iv p5, iv ra, iv rb, iv ib, iv cb, iv ca0, iv ca1, iv cb0, iv cb1, iv (0 : Int32), iv (0 : Int32), rv x22, rv x24, rv b26, iv (((p5.toUInt32 >>> ((5 : Int32) &&& 31).toUInt32).toInt32) &&& (3 : Int32)), .unset, .unset, .unset] [(.int (0 : Int32))])) _
          refine XS.ifNo X33.here hx rfl (hb hby at_181) rfl ((if0 _ _).trans (teq (by decide)).2) ?_
          show Steps p.tables e below (T33.setTop (mkF m 184 #[iv p0, iv p1, iv p2, iv p3, iv p4, iv p5, iv ra, iv rb, iv ib, iv cb, iv ca0, iv ca1, iv cb0, iv cb1, iv (0 : Int32), iv (0 : Int32), rv x22, rv x24, rv b26, iv (((p5.toUInt32 >>> ((5 : Int32) &&& 31).toUInt32).toInt32) &&& (3 : Int32)), .unset, .unset, .unset] [])) _
          refine XS.iconst X33.here hx rfl (hb hby at_184) ?_
          show Steps p.tables e below (T33.setTop (mkF m 185 #[iv p0, iv p1, iv p2, iv p3, iv p4, iv p5, iv ra, iv rb, iv ib, iv cb, iv ca0, iv ca1, iv cb0, iv cb1, iv (0 : Int32), iv (0 : Int32), rv x22, rv x24, rv b26, iv (((p5.toUInt32 >>> ((5 : Int32) &&& 31).toUInt32).toInt32) &&& (3 : Int32)), .unset, .unset, .unset] [(.int (1 : Int32))])) _
          refine XS.goto X33.here hx rfl (pc0 := 185) (pc' := 189) rfl (hb hby at_185) (by decide) (by decide) ?_
          exact kt
        obtain ⟨fs, hr, hrun, hended, hW, hsame⟩ := X33.leave (v := some (.int (1 : Int32))) (fun h => by rw [Bd.returns] at h; cases h)
        refine ⟨_, _, pre34 _ ?_, hrun, hended, _, _, rfl, ?_, ⟨_, rfl⟩, hW, hsame.mono (by decide) (by decide)⟩
        · show Steps p.tables e below (T33.setTop (mkF m 189 #[iv p0, iv p1, iv p2, iv p3, iv p4, iv p5, iv ra, iv rb, iv ib, iv cb, iv ca0, iv ca1, iv cb0, iv cb1, iv (0 : Int32), iv (0 : Int32), rv x22, rv x24, rv b26, iv (((p5.toUInt32 >>> ((5 : Int32) &&& 31).toUInt32).toInt32) &&& (3 : Int32)), .unset, .unset, .unset] [(.int (1 : Int32))])) _
          exact retN X33 hx (t := .boolean) Bd.returns (by simp) (hb hby at_189) hr
        · show Q0 Z p0 p1 p2 p3 p4 p5 aK aP aS aR cs h0 n0 _ T33.heap _
          rw [hh33]
          exact ⟨rfl, N33⟩
      · have pre35 : ∀ t, Steps p.tables e below (T30.setTop (mkF m 193 #[iv p0, iv p1, iv p2, iv p3, iv p4, iv p5, iv ra, iv rb, iv ib, iv cb, iv ca0, iv ca1, iv cb0, iv cb1, iv (0 : Int32), iv (0 : Int32), rv x22, rv x24, rv b26, iv (((p5.toUInt32 >>> ((5 : Int32) &&& 31).toUInt32).toInt32) &&& (3 : Int32)), .unset, .unset, .unset] [(.int (1 : Int32)), (.int (((p5.toUInt32 >>> ((5 : Int32) &&& 31).toUInt32).toInt32) &&& (3 : Int32)))])) t → Steps p.tables e below (s₁.setTop (entryFrame m #[(.int p0), (.int p1), (.int p2), (.int p3), (.int p4), (.int p5)] maxLocals)) t := by
          intro t kt
          refine pre31 _ ?_
          show Steps p.tables e below (T30.setTop (mkF m 172 #[iv p0, iv p1, iv p2, iv p3, iv p4, iv p5, iv ra, iv rb, iv ib, iv cb, iv ca0, iv ca1, iv cb0, iv cb1, iv (0 : Int32), iv (0 : Int32), rv x22, rv x24, rv b26, iv (((p5.toUInt32 >>> ((5 : Int32) &&& 31).toUInt32).toInt32) &&& (3 : Int32)), .unset, .unset, .unset] [(.int (((p5.toUInt32 >>> ((5 : Int32) &&& 31).toUInt32).toInt32) &&& (3 : Int32)))])) _
          refine XS.ifYes X30.here hx rfl (pc0 := 172) (pc' := 190) rfl (hb hby at_172) rfl ((if0 _ _).trans (feq hc172).2) (by decide) (by decide) ?_
          show Steps p.tables e below (T30.setTop (mkF m 190 #[iv p0, iv p1, iv p2, iv p3, iv p4, iv p5, iv ra, iv rb, iv ib, iv cb, iv ca0, iv ca1, iv cb0, iv cb1, iv (0 : Int32), iv (0 : Int32), rv x22, rv x24, rv b26, iv (((p5.toUInt32 >>> ((5 : Int32) &&& 31).toUInt32).toInt32) &&& (3 : Int32)), .unset, .unset, .unset] [])) _
          refine XS.iload X30.here hx rfl (hb hby at_190) rfl ?_
          show Steps p.tables e below (T30.setTop (mkF m 192 #[iv p0, iv p1, iv p2, iv p3, iv p4, iv p5, iv ra, iv rb, iv ib, iv cb, iv ca0, iv ca1, iv cb0, iv cb1, iv (0 : Int32), iv (0 : Int32), rv x22, rv x24, rv b26, iv (((p5.toUInt32 >>> ((5 : Int32) &&& 31).toUInt32).toInt32) &&& (3 : Int32)), .unset, .unset, .unset] [(.int (((p5.toUInt32 >>> ((5 : Int32) &&& 31).toUInt32).toInt32) &&& (3 : Int32)))])) _
          refine XS.iconst X30.here hx rfl (hb hby at_192) ?_
          exact kt
        by_cases hc193 : (((p5.toUInt32 >>> ((5 : Int32) &&& 31).toUInt32).toInt32) &&& (3 : Int32)) = (1 : Int32)
        · have pre36 : ∀ t, Steps p.tables e below (T30.setTop (mkF m 204 #[iv p0, iv p1, iv p2, iv p3, iv p4, iv p5, iv ra, iv rb, iv ib, iv cb, iv ca0, iv ca1, iv cb0, iv cb1, iv (0 : Int32), iv (0 : Int32), rv x22, rv x24, rv b26, iv (((p5.toUInt32 >>> ((5 : Int32) &&& 31).toUInt32).toInt32) &&& (3 : Int32)), rv x22, .unset, .unset] [(.ref x22), (.ref b26)])) t → Steps p.tables e below (s₁.setTop (entryFrame m #[(.int p0), (.int p1), (.int p2), (.int p3), (.int p4), (.int p5)] maxLocals)) t := by
            intro t kt
            refine pre35 _ ?_
            show Steps p.tables e below (T30.setTop (mkF m 193 #[iv p0, iv p1, iv p2, iv p3, iv p4, iv p5, iv ra, iv rb, iv ib, iv cb, iv ca0, iv ca1, iv cb0, iv cb1, iv (0 : Int32), iv (0 : Int32), rv x22, rv x24, rv b26, iv (((p5.toUInt32 >>> ((5 : Int32) &&& 31).toUInt32).toInt32) &&& (3 : Int32)), .unset, .unset, .unset] [(.int (1 : Int32)), (.int (((p5.toUInt32 >>> ((5 : Int32) &&& 31).toUInt32).toInt32) &&& (3 : Int32)))])) _
            refine XS.icmpNo X30.here hx rfl (hb hby at_193) rfl (teq hc193).2 ?_
            show Steps p.tables e below (T30.setTop (mkF m 196 #[iv p0, iv p1, iv p2, iv p3, iv p4, iv p5, iv ra, iv rb, iv ib, iv cb, iv ca0, iv ca1, iv cb0, iv cb1, iv (0 : Int32), iv (0 : Int32), rv x22, rv x24, rv b26, iv (((p5.toUInt32 >>> ((5 : Int32) &&& 31).toUInt32).toInt32) &&& (3 : Int32)), .unset, .unset, .unset] [])) _
            refine XS.aload X30.here hx rfl (hb hby at_196) rfl rfl ?_
            show Steps p.tables e below (T30.setTop (mkF m 198 #[iv p0, iv p1, iv p2, iv p3, iv p4, iv p5, iv ra, iv rb, iv ib, iv cb, iv ca0, iv ca1, iv cb0, iv cb1, iv (0 : Int32), iv (0 : Int32), rv x22, rv x24, rv b26, iv (((p5.toUInt32 >>> ((5 : Int32) &&& 31).toUInt32).toInt32) &&& (3 : Int32)), .unset, .unset, .unset] [(.ref x22)])) _
            refine XS.astore X30.here hx rfl (hb hby at_198) rfl rfl (l' := #[iv p0, iv p1, iv p2, iv p3, iv p4, iv p5, iv ra, iv rb, iv ib, iv cb, iv ca0, iv ca1, iv cb0, iv cb1, iv (0 : Int32), iv (0 : Int32), rv x22, rv x24, rv b26, iv (((p5.toUInt32 >>> ((5 : Int32) &&& 31).toUInt32).toInt32) &&& (3 : Int32)), rv x22, .unset, .unset]) rfl ?_
            show Steps p.tables e below (T30.setTop (mkF m 200 #[iv p0, iv p1, iv p2, iv p3, iv p4, iv p5, iv ra, iv rb, iv ib, iv cb, iv ca0, iv ca1, iv cb0, iv cb1, iv (0 : Int32), iv (0 : Int32), rv x22, rv x24, rv b26, iv (((p5.toUInt32 >>> ((5 : Int32) &&& 31).toUInt32).toInt32) &&& (3 : Int32)), rv x22, .unset, .unset] [])) _
            refine XS.aload X30.here hx rfl (hb hby at_200) rfl rfl ?_
            show Steps p.tables e below (T30.setTop (mkF m 202 #[iv p0, iv p1, iv p2, iv p3, iv p4, iv p5, iv ra, iv rb, iv ib, iv cb, iv ca0, iv ca1, iv cb0, iv cb1, iv (0 : Int32), iv (0 : Int32), rv x22, rv x24, rv b26, iv (((p5.toUInt32 >>> ((5 : Int32) &&& 31).toUInt32).toInt32) &&& (3 : Int32)), rv x22, .unset, .unset] [(.ref b26)])) _
            refine XS.aload X30.here hx rfl (hb hby at_202) rfl rfl ?_
            exact kt
          obtain ⟨cq37, kq37, q37a, q37b, q37c⟩ := isOf hZ rfl (A26.keep Kc30)
          obtain ⟨_, _, ⟨T37, L37, k37, n37⟩, -, X37, ⟨Lc37, hQ37, l37, y37, z37⟩, st37⟩ := X30.virtualBack hx (y := (⟨"com/example/fair_witness/fairwitness/verifier/DecodingFailure", "equals", "(Ljava/lang/Object;)Z"⟩ : MethodName)) (z := (⟨"com/example/fair_witness/fairwitness/verifier/DecodingFailure", "equals", "(Ljava/lang/Object;)Z"⟩ : MethodName)) hown (mvT hZ (hw _ (List.mem_of_getElem? (i := 53) rfl))) (mvT hZ (hw _ (List.mem_of_getElem? (i := 54) rfl))) (notFace_of_selects (args := #[]) (mvT hZ (hw _ (List.mem_of_getElem? (i := 56) rfl)))) (mvT hZ (hw _ (List.mem_of_getElem? (i := 56) rfl))) (mvT hZ (hw _ (List.mem_of_getElem? (i := 55) rfl))) (by decide) (backOf (W := 0) (rm10str l Z a0 hw [] b26 x22 T30.heap n0 (Nat.le_trans Z0 K30.1) (((Ex22.keep Kc24).ext E26).keep Kc30)) hZ (hw _ (List.mem_of_getElem? (i := 57) rfl)) (hw _ (List.mem_of_getElem? (i := 36) rfl)) (by decide) (by decide)) q37a q37c (g := (mkF m 204 #[iv p0, iv p1, iv p2, iv p3, iv p4, iv p5, iv ra, iv rb, iv ib, iv cb, iv ca0, iv ca1, iv cb0, iv cb1, iv (0 : Int32), iv (0 : Int32), rv x22, rv x24, rv b26, iv (((p5.toUInt32 >>> ((5 : Int32) &&& 31).toUInt32).toInt32) &&& (3 : Int32)), rv x22, .unset, .unset] [(.ref x22), (.ref b26)])) rfl (by rw [hml]; rfl) (Steps.refl _) (argsL := [(.ref x22)]) (rest := []) (lenOf pd15 rfl) rfl (by show 2 * 0 + _ ≤ _; exact Nat.le_of_eq rfl) (hb hby at_204) (fun _ _ => ⟨rfl, rfl, (by decide : 7 + 0 ≤ _), (by decide : 19 + 0 ≤ _)⟩)
          dsimp only [Pt.U, Pt.locs, Pt.cells, Pt.slots] at X37 l37 y37 z37 st37 hQ37
          subst l37 y37 z37
          obtain ⟨rfl, N37q, hh37⟩ := hQ37
          have N37 := Fr.app N30 N37q
          have pre38 : ∀ t, Steps p.tables e below (T37.setTop (mkF m 215 #[iv p0, iv p1, iv p2, iv p3, iv p4, iv p5, iv ra, iv rb, iv ib, iv cb, iv ca0, iv ca1, iv cb0, iv cb1, iv (0 : Int32), iv (0 : Int32), rv x22, rv x24, rv b26, iv (((p5.toUInt32 >>> ((5 : Int32) &&& 31).toUInt32).toInt32) &&& (3 : Int32)), rv x22, .unset, .unset] [(.int (1 : Int32))])) t → Steps p.tables e below (s₁.setTop (entryFrame m #[(.int p0), (.int p1), (.int p2), (.int p3), (.int p4), (.int p5)] maxLocals)) t := by
            intro t kt
            refine pre36 _ ?_
            show Steps p.tables e below (T30.setTop (mkF m 204 #[iv p0, iv p1, iv p2, iv p3, iv p4, iv p5, iv ra, iv rb, iv ib, iv cb, iv ca0, iv ca1, iv cb0, iv cb1, iv (0 : Int32), iv (0 : Int32), rv x22, rv x24, rv b26, iv (((p5.toUInt32 >>> ((5 : Int32) &&& 31).toUInt32).toInt32) &&& (3 : Int32)), rv x22, .unset, .unset] [(.ref x22), (.ref b26)])) _
            refine st37.trans ?_
            show Steps p.tables e below (T37.setTop (mkF m 207 #[iv p0, iv p1, iv p2, iv p3, iv p4, iv p5, iv ra, iv rb, iv ib, iv cb, iv ca0, iv ca1, iv cb0, iv cb1, iv (0 : Int32), iv (0 : Int32), rv x22, rv x24, rv b26, iv (((p5.toUInt32 >>> ((5 : Int32) &&& 31).toUInt32).toInt32) &&& (3 : Int32)), rv x22, .unset, .unset] [(.int (0 : Int32))])) _
            refine XS.ifNo X37.here hx rfl (hb hby at_207) rfl ((if0 _ _).trans (teq (by decide)).2) ?_
            show Steps p.tables e below (T37.setTop (mkF m 210 #[iv p0, iv p1, iv p2, iv p3, iv p4, iv p5, iv ra, iv rb, iv ib, iv cb, iv ca0, iv ca1, iv cb0, iv cb1, iv (0 : Int32), iv (0 : Int32), rv x22, rv x24, rv b26, iv (((p5.toUInt32 >>> ((5 : Int32) &&& 31).toUInt32).toInt32) &&& (3 : Int32)), rv x22, .unset, .unset] [])) _
            refine XS.iconst X37.here hx rfl (hb hby at_210) ?_
            show Steps p.tables e below (T37.setTop (mkF m 211 #[iv p0, iv p1, iv p2, iv p3, iv p4, iv p5, iv ra, iv rb, iv ib, iv cb, iv ca0, iv ca1, iv cb0, iv cb1, iv (0 : Int32), iv (0 : Int32), rv x22, rv x24, rv b26, iv (((p5.toUInt32 >>> ((5 : Int32) &&& 31).toUInt32).toInt32) &&& (3 : Int32)), rv x22, .unset, .unset] [(.int (1 : Int32))])) _
            refine XS.goto X37.here hx rfl (pc0 := 211) (pc' := 215) rfl (hb hby at_211) (by decide) (by decide) ?_
            exact kt
          obtain ⟨fs, hr, hrun, hended, hW, hsame⟩ := X37.leave (v := some (.int (1 : Int32))) (fun h => by rw [Bd.returns] at h; cases h)
          refine ⟨_, _, pre38 _ ?_, hrun, hended, _, _, rfl, ?_, ⟨_, rfl⟩, hW, hsame.mono (by decide) (by decide)⟩
          · show Steps p.tables e below (T37.setTop (mkF m 215 #[iv p0, iv p1, iv p2, iv p3, iv p4, iv p5, iv ra, iv rb, iv ib, iv cb, iv ca0, iv ca1, iv cb0, iv cb1, iv (0 : Int32), iv (0 : Int32), rv x22, rv x24, rv b26, iv (((p5.toUInt32 >>> ((5 : Int32) &&& 31).toUInt32).toInt32) &&& (3 : Int32)), rv x22, .unset, .unset] [(.int (1 : Int32))])) _
            exact retN X37 hx (t := .boolean) Bd.returns (by simp) (hb hby at_215) hr
          · show Q0 Z p0 p1 p2 p3 p4 p5 aK aP aS aR cs h0 n0 _ T37.heap _
            rw [hh37]
            exact ⟨rfl, N37⟩
        · have pre39 : ∀ t, Steps p.tables e below (T30.setTop (mkF m 219 #[iv p0, iv p1, iv p2, iv p3, iv p4, iv p5, iv ra, iv rb, iv ib, iv cb, iv ca0, iv ca1, iv cb0, iv cb1, iv (0 : Int32), iv (0 : Int32), rv x22, rv x24, rv b26, iv (((p5.toUInt32 >>> ((5 : Int32) &&& 31).toUInt32).toInt32) &&& (3 : Int32)), .unset, .unset, .unset] [(.int (2 : Int32)), (.int (((p5.toUInt32 >>> ((5 : Int32) &&& 31).toUInt32).toInt32) &&& (3 : Int32)))])) t → Steps p.tables e below (s₁.setTop (entryFrame m #[(.int p0), (.int p1), (.int p2), (.int p3), (.int p4), (.int p5)] maxLocals)) t := by
            intro t kt
            refine pre35 _ ?_
            show Steps p.tables e below (T30.setTop (mkF m 193 #[iv p0, iv p1, iv p2, iv p3, iv p4, iv p5, iv ra, iv rb, iv ib, iv cb, iv ca0, iv ca1, iv cb0, iv cb1, iv (0 : Int32), iv (0 : Int32), rv x22, rv x24, rv b26, iv (((p5.toUInt32 >>> ((5 : Int32) &&& 31).toUInt32).toInt32) &&& (3 : Int32)), .unset, .unset, .unset] [(.int (1 : Int32)), (.int (((p5.toUInt32 >>> ((5 : Int32) &&& 31).toUInt32).toInt32) &&& (3 : Int32)))])) _
            refine XS.icmpYes X30.here hx rfl (pc0 := 193) (pc' := 216) rfl (hb hby at_193) rfl (feq hc193).2 (by decide) (by decide) ?_
            show Steps p.tables e below (T30.setTop (mkF m 216 #[iv p0, iv p1, iv p2, iv p3, iv p4, iv p5, iv ra, iv rb, iv ib, iv cb, iv ca0, iv ca1, iv cb0, iv cb1, iv (0 : Int32), iv (0 : Int32), rv x22, rv x24, rv b26, iv (((p5.toUInt32 >>> ((5 : Int32) &&& 31).toUInt32).toInt32) &&& (3 : Int32)), .unset, .unset, .unset] [])) _
            refine XS.iload X30.here hx rfl (hb hby at_216) rfl ?_
            show Steps p.tables e below (T30.setTop (mkF m 218 #[iv p0, iv p1, iv p2, iv p3, iv p4, iv p5, iv ra, iv rb, iv ib, iv cb, iv ca0, iv ca1, iv cb0, iv cb1, iv (0 : Int32), iv (0 : Int32), rv x22, rv x24, rv b26, iv (((p5.toUInt32 >>> ((5 : Int32) &&& 31).toUInt32).toInt32) &&& (3 : Int32)), .unset, .unset, .unset] [(.int (((p5.toUInt32 >>> ((5 : Int32) &&& 31).toUInt32).toInt32) &&& (3 : Int32)))])) _
            refine XS.iconst X30.here hx rfl (hb hby at_218) ?_
            exact kt
          by_cases hc219 : (((p5.toUInt32 >>> ((5 : Int32) &&& 31).toUInt32).toInt32) &&& (3 : Int32)) = (2 : Int32)
          · have pre40 : ∀ t, Steps p.tables e below (T30.setTop (mkF m 226 #[iv p0, iv p1, iv p2, iv p3, iv p4, iv p5, iv ra, iv rb, iv ib, iv cb, iv ca0, iv ca1, iv cb0, iv cb1, iv (0 : Int32), iv (0 : Int32), rv x22, rv x24, rv b26, iv (((p5.toUInt32 >>> ((5 : Int32) &&& 31).toUInt32).toInt32) &&& (3 : Int32)), .unset, .unset, .unset] [(.ref b26), (.ref b26)])) t → Steps p.tables e below (s₁.setTop (entryFrame m #[(.int p0), (.int p1), (.int p2), (.int p3), (.int p4), (.int p5)] maxLocals)) t := by
              intro t kt
              refine pre39 _ ?_
              show Steps p.tables e below (T30.setTop (mkF m 219 #[iv p0, iv p1, iv p2, iv p3, iv p4, iv p5, iv ra, iv rb, iv ib, iv cb, iv ca0, iv ca1, iv cb0, iv cb1, iv (0 : Int32), iv (0 : Int32), rv x22, rv x24, rv b26, iv (((p5.toUInt32 >>> ((5 : Int32) &&& 31).toUInt32).toInt32) &&& (3 : Int32)), .unset, .unset, .unset] [(.int (2 : Int32)), (.int (((p5.toUInt32 >>> ((5 : Int32) &&& 31).toUInt32).toInt32) &&& (3 : Int32)))])) _
              refine XS.icmpNo X30.here hx rfl (hb hby at_219) rfl (teq hc219).2 ?_
              show Steps p.tables e below (T30.setTop (mkF m 222 #[iv p0, iv p1, iv p2, iv p3, iv p4, iv p5, iv ra, iv rb, iv ib, iv cb, iv ca0, iv ca1, iv cb0, iv cb1, iv (0 : Int32), iv (0 : Int32), rv x22, rv x24, rv b26, iv (((p5.toUInt32 >>> ((5 : Int32) &&& 31).toUInt32).toInt32) &&& (3 : Int32)), .unset, .unset, .unset] [])) _
              refine XS.aload X30.here hx rfl (hb hby at_222) rfl rfl ?_
              show Steps p.tables e below (T30.setTop (mkF m 224 #[iv p0, iv p1, iv p2, iv p3, iv p4, iv p5, iv ra, iv rb, iv ib, iv cb, iv ca0, iv ca1, iv cb0, iv cb1, iv (0 : Int32), iv (0 : Int32), rv x22, rv x24, rv b26, iv (((p5.toUInt32 >>> ((5 : Int32) &&& 31).toUInt32).toInt32) &&& (3 : Int32)), .unset, .unset, .unset] [(.ref b26)])) _
              refine XS.aload X30.here hx rfl (hb hby at_224) rfl rfl ?_
              exact kt
            obtain ⟨cq41, kq41, q41a, q41b, q41c⟩ := isOf hZ rfl (A26.keep Kc30)
            obtain ⟨_, _, ⟨T41, L41, k41, n41⟩, -, X41, ⟨Lc41, hQ41, l41, y41, z41⟩, st41⟩ := X30.virtualBack hx (y := (⟨"com/example/fair_witness/fairwitness/verifier/DecodingFailure", "equals", "(Ljava/lang/Object;)Z"⟩ : MethodName)) (z := (⟨"com/example/fair_witness/fairwitness/verifier/DecodingFailure", "equals", "(Ljava/lang/Object;)Z"⟩ : MethodName)) hown (mvT hZ (hw _ (List.mem_of_getElem? (i := 53) rfl))) (mvT hZ (hw _ (List.mem_of_getElem? (i := 54) rfl))) (notFace_of_selects (args := #[]) (mvT hZ (hw _ (List.mem_of_getElem? (i := 56) rfl)))) (mvT hZ (hw _ (List.mem_of_getElem? (i := 56) rfl))) (mvT hZ (hw _ (List.mem_of_getElem? (i := 55) rfl))) (by decide) (backOf (W := 0) (rm10same l Z a0 hw [] b26 (own_rs aK aP aS aR ra) p1 x22 T30.heap n0 (Nat.le_trans Z0 K30.1) F0_30 F1_30 F2_30 (A26.keep Kc30) (((Ex22.keep Kc24).ext E26).keep Kc30)) hZ (hw _ (List.mem_of_getElem? (i := 57) rfl)) (hw _ (List.mem_of_getElem? (i := 36) rfl)) (by decide) (by decide)) q41a q41c (g := (mkF m 226 #[iv p0, iv p1, iv p2, iv p3, iv p4, iv p5, iv ra, iv rb, iv ib, iv cb, iv ca0, iv ca1, iv cb0, iv cb1, iv (0 : Int32), iv (0 : Int32), rv x22, rv x24, rv b26, iv (((p5.toUInt32 >>> ((5 : Int32) &&& 31).toUInt32).toInt32) &&& (3 : Int32)), .unset, .unset, .unset] [(.ref b26), (.ref b26)])) rfl (by rw [hml]; rfl) (Steps.refl _) (argsL := [(.ref b26)]) (rest := []) (lenOf pd15 rfl) rfl (by show 2 * 0 + _ ≤ _; exact Nat.le_of_eq rfl) (hb hby at_226) (fun _ _ => ⟨rfl, rfl, (by decide : 7 + 0 ≤ _), (by decide : 19 + 0 ≤ _)⟩)
            dsimp only [Pt.U, Pt.locs, Pt.cells, Pt.slots] at X41 l41 y41 z41 st41 hQ41
            subst l41 y41 z41
            obtain ⟨rfl, N41q, hh41⟩ := hQ41
            have N41 := Fr.app N30 N41q
            have pre42 : ∀ t, Steps p.tables e below (T41.setTop (mkF m 229 #[iv p0, iv p1, iv p2, iv p3, iv p4, iv p5, iv ra, iv rb, iv ib, iv cb, iv ca0, iv ca1, iv cb0, iv cb1, iv (0 : Int32), iv (0 : Int32), rv x22, rv x24, rv b26, iv (((p5.toUInt32 >>> ((5 : Int32) &&& 31).toUInt32).toInt32) &&& (3 : Int32)), .unset, .unset, .unset] [(.int (1 : Int32))])) t → Steps p.tables e below (s₁.setTop (entryFrame m #[(.int p0), (.int p1), (.int p2), (.int p3), (.int p4), (.int p5)] maxLocals)) t := by
              intro t kt
              refine pre40 _ ?_
              show Steps p.tables e below (T30.setTop (mkF m 226 #[iv p0, iv p1, iv p2, iv p3, iv p4, iv p5, iv ra, iv rb, iv ib, iv cb, iv ca0, iv ca1, iv cb0, iv cb1, iv (0 : Int32), iv (0 : Int32), rv x22, rv x24, rv b26, iv (((p5.toUInt32 >>> ((5 : Int32) &&& 31).toUInt32).toInt32) &&& (3 : Int32)), .unset, .unset, .unset] [(.ref b26), (.ref b26)])) _
              refine st41.trans ?_
              exact kt
            obtain ⟨fs, hr, hrun, hended, hW, hsame⟩ := X41.leave (v := some (.int (1 : Int32))) (fun h => by rw [Bd.returns] at h; cases h)
            refine ⟨_, _, pre42 _ ?_, hrun, hended, _, _, rfl, ?_, ⟨_, rfl⟩, hW, hsame.mono (by decide) (by decide)⟩
            · show Steps p.tables e below (T41.setTop (mkF m 229 #[iv p0, iv p1, iv p2, iv p3, iv p4, iv p5, iv ra, iv rb, iv ib, iv cb, iv ca0, iv ca1, iv cb0, iv cb1, iv (0 : Int32), iv (0 : Int32), rv x22, rv x24, rv b26, iv (((p5.toUInt32 >>> ((5 : Int32) &&& 31).toUInt32).toInt32) &&& (3 : Int32)), .unset, .unset, .unset] [(.int (1 : Int32))])) _
              exact retN X41 hx (t := .boolean) Bd.returns (by simp) (hb hby at_229) hr
            · show Q0 Z p0 p1 p2 p3 p4 p5 aK aP aS aR cs h0 n0 _ T41.heap _
              rw [hh41]
              exact ⟨rfl, N41⟩
          · have pre43 : ∀ t, Steps p.tables e below (T30.setTop (mkF m 230 #[iv p0, iv p1, iv p2, iv p3, iv p4, iv p5, iv ra, iv rb, iv ib, iv cb, iv ca0, iv ca1, iv cb0, iv cb1, iv (0 : Int32), iv (0 : Int32), rv x22, rv x24, rv b26, iv (((p5.toUInt32 >>> ((5 : Int32) &&& 31).toUInt32).toInt32) &&& (3 : Int32)), .unset, .unset, .unset] [])) t → Steps p.tables e below (s₁.setTop (entryFrame m #[(.int p0), (.int p1), (.int p2), (.int p3), (.int p4), (.int p5)] maxLocals)) t := by
              intro t kt
              refine pre39 _ ?_
              show Steps p.tables e below (T30.setTop (mkF m 219 #[iv p0, iv p1, iv p2, iv p3, iv p4, iv p5, iv ra, iv rb, iv ib, iv cb, iv ca0, iv ca1, iv cb0, iv cb1, iv (0 : Int32), iv (0 : Int32), rv x22, rv x24, rv b26, iv (((p5.toUInt32 >>> ((5 : Int32) &&& 31).toUInt32).toInt32) &&& (3 : Int32)), .unset, .unset, .unset] [(.int (2 : Int32)), (.int (((p5.toUInt32 >>> ((5 : Int32) &&& 31).toUInt32).toInt32) &&& (3 : Int32)))])) _
              refine XS.icmpYes X30.here hx rfl (pc0 := 219) (pc' := 230) rfl (hb hby at_219) rfl (feq hc219).2 (by decide) (by decide) ?_
              exact kt
            obtain ⟨T44, h44, X44, e44, E44, A44, D44, -, st44⟩ := newO X30 hx hZ hown (hw _ (List.mem_of_getElem? (i := 34) rfl)) (hw _ (List.mem_of_getElem? (i := 35) rfl)) (hw _ (List.mem_of_getElem? (i := 36) rfl)) rfl (g := (mkF m 230 #[iv p0, iv p1, iv p2, iv p3, iv p4, iv p5, iv ra, iv rb, iv ib, iv cb, iv ca0, iv ca1, iv cb0, iv cb1, iv (0 : Int32), iv (0 : Int32), rv x22, rv x24, rv b26, iv (((p5.toUInt32 >>> ((5 : Int32) &&& 31).toUInt32).toInt32) &&& (3 : Int32)), .unset, .unset, .unset] [])) rfl (hb hby at_230) (by decide) (by decide)
            obtain ⟨b44, g44⟩ : ∃ z, z = T30.heap.size := ⟨_, rfl⟩
            rw [← g44] at A44 D44 st44
            have g_b44 : n0 ≤ b44 := Nat.le_trans (Nat.le_trans Z0 K30.1) (Nat.le_of_eq g44.symm)
            have sz_b44 : h0.size ≤ b44 := Nat.le_trans K30.1 (Nat.le_of_eq g44.symm)
            have F_reason_b44 : Fld Z h44 b44 "com/example/fair_witness/fairwitness/verifier/DecodingFailure" "reason" "Lcom/example/fair_witness/fairwitness/verifier/Reason;" .null := D44 (Or.inr (hw _ (List.mem_of_getElem? (i := 48) rfl))) (ty := (.object "com/example/fair_witness/fairwitness/verifier/Reason")) (by decide)
            have F_certificateIndex_b44 : Fld Z h44 b44 "com/example/fair_witness/fairwitness/verifier/DecodingFailure" "certificateIndex" "I" (.int (0 : Int32)) := D44 (Or.inr (hw _ (List.mem_of_getElem? (i := 50) rfl))) (ty := .int) (by decide)
            have F_detail_b44 : Fld Z h44 b44 "com/example/fair_witness/fairwitness/verifier/DecodingFailure" "detail" "Ljava/lang/String;" .null := D44 (Or.inr (hw _ (List.mem_of_getElem? (i := 52) rfl))) (ty := (.object "java/lang/String")) (by decide)
            have K44 : Keep h0 h44 [] := K30.ext E44
            have pre45 : ∀ t, Steps p.tables e below (T44.setTop (mkF m 236 #[iv p0, iv p1, iv p2, iv p3, iv p4, iv p5, iv ra, iv rb, iv ib, iv cb, iv ca0, iv ca1, iv cb0, iv cb1, iv (0 : Int32), iv (0 : Int32), rv x22, rv x24, rv b26, iv (((p5.toUInt32 >>> ((5 : Int32) &&& 31).toUInt32).toInt32) &&& (3 : Int32)), .unset, .unset, .unset] [(.int rb), (.ref b44), (.ref b44)])) t → Steps p.tables e below (s₁.setTop (entryFrame m #[(.int p0), (.int p1), (.int p2), (.int p3), (.int p4), (.int p5)] maxLocals)) t := by
              intro t kt
              refine pre43 _ ?_
              show Steps p.tables e below (T30.setTop (mkF m 230 #[iv p0, iv p1, iv p2, iv p3, iv p4, iv p5, iv ra, iv rb, iv ib, iv cb, iv ca0, iv ca1, iv cb0, iv cb1, iv (0 : Int32), iv (0 : Int32), rv x22, rv x24, rv b26, iv (((p5.toUInt32 >>> ((5 : Int32) &&& 31).toUInt32).toInt32) &&& (3 : Int32)), .unset, .unset, .unset] [])) _
              refine st44 _ ?_
              show Steps p.tables e below (T44.setTop (mkF m 233 #[iv p0, iv p1, iv p2, iv p3, iv p4, iv p5, iv ra, iv rb, iv ib, iv cb, iv ca0, iv ca1, iv cb0, iv cb1, iv (0 : Int32), iv (0 : Int32), rv x22, rv x24, rv b26, iv (((p5.toUInt32 >>> ((5 : Int32) &&& 31).toUInt32).toInt32) &&& (3 : Int32)), .unset, .unset, .unset] [(.ref b44)])) _
              refine XS.dup X44.here hx rfl (hb hby at_233) rfl rfl ?_
              show Steps p.tables e below (T44.setTop (mkF m 234 #[iv p0, iv p1, iv p2, iv p3, iv p4, iv p5, iv ra, iv rb, iv ib, iv cb, iv ca0, iv ca1, iv cb0, iv cb1, iv (0 : Int32), iv (0 : Int32), rv x22, rv x24, rv b26, iv (((p5.toUInt32 >>> ((5 : Int32) &&& 31).toUInt32).toInt32) &&& (3 : Int32)), .unset, .unset, .unset] [(.ref b44), (.ref b44)])) _
              refine XS.iload X44.here hx rfl (hb hby at_234) rfl ?_
              exact kt
            obtain ⟨_, _, ⟨T46, L46, k46, n46⟩, -, X46, ⟨Lc46, hQ46, l46, y46, z46⟩, st46⟩ := Jvm.LawKit.callS X44 hx (y := (⟨"com/example/fair_witness/fairwitness/verifier/DecodingFailureEqualsPinLaw", "reason", "(I)Lcom/example/fair_witness/fairwitness/verifier/Reason;"⟩ : MethodName)) hown (mvT hZ (hw _ (List.mem_of_getElem? (i := 37) rfl))) (mvT hZ (hw _ (List.mem_of_getElem? (i := 38) rfl))) (mvT hZ (hw _ (List.mem_of_getElem? (i := 2) rfl))) (mvT hZ (hw _ (List.mem_of_getElem? (i := 39) rfl))) (by decide) (backOf (W := 2) (rm8 l Z a0 hw [] rb aK aP aS aR h44 n0 (Nat.le_trans Z0 K44.1) (O0.keep K44 all0) S_KEY_DESCRIPTION_INVALID S_PROVISIONING_INFO_INVALID S_SIGNATURE_INVALID S_ROOT_NOT_TRUSTED) hZ (hw _ (List.mem_of_getElem? (i := 39) rfl)) (hw _ (List.mem_of_getElem? (i := 2) rfl)) (by decide) (by decide)) (g := (mkF m 236 #[iv p0, iv p1, iv p2, iv p3, iv p4, iv p5, iv ra, iv rb, iv ib, iv cb, iv ca0, iv ca1, iv cb0, iv cb1, iv (0 : Int32), iv (0 : Int32), rv x22, rv x24, rv b26, iv (((p5.toUInt32 >>> ((5 : Int32) &&& 31).toUInt32).toInt32) &&& (3 : Int32)), .unset, .unset, .unset] [(.int rb), (.ref b44), (.ref b44)])) rfl (by rw [hml]; rfl) (argsL := [(.int rb)]) (rest := [(.ref b44), (.ref b44)]) (lenOf pd17 rfl) rfl (by show 2 * 0 + _ ≤ _; exact Nat.le_of_eq rfl) (hb hby at_236) (fun _ _ => ⟨rfl, e44, (by decide : 8 + 0 ≤ _), (by decide : 22 + 0 ≤ _)⟩)
            dsimp only [Pt.U, Pt.locs, Pt.cells, Pt.slots] at X46 l46 y46 z46 st46 hQ46
            subst l46 y46 z46
            obtain ⟨rfl, N46q, hh46⟩ := hQ46
            have N46 := Fr.app N30 N46q
            have pre47 : ∀ t, Steps p.tables e below (T46.setTop (mkF m 243 #[iv p0, iv p1, iv p2, iv p3, iv p4, iv p5, iv ra, iv rb, iv ib, iv cb, iv ca0, iv ca1, iv cb0, iv cb1, iv (0 : Int32), iv (0 : Int32), rv x22, rv x24, rv b26, iv (((p5.toUInt32 >>> ((5 : Int32) &&& 31).toUInt32).toInt32) &&& (3 : Int32)), .unset, .unset, .unset] [(.ref x24), (.int ib), (.ref (own_rs aK aP aS aR rb)), (.ref b44), (.ref b44)])) t → Steps p.tables e below (s₁.setTop (entryFrame m #[(.int p0), (.int p1), (.int p2), (.int p3), (.int p4), (.int p5)] maxLocals)) t := by
              intro t kt
              refine pre45 _ ?_
              show Steps p.tables e below (T44.setTop (mkF m 236 #[iv p0, iv p1, iv p2, iv p3, iv p4, iv p5, iv ra, iv rb, iv ib, iv cb, iv ca0, iv ca1, iv cb0, iv cb1, iv (0 : Int32), iv (0 : Int32), rv x22, rv x24, rv b26, iv (((p5.toUInt32 >>> ((5 : Int32) &&& 31).toUInt32).toInt32) &&& (3 : Int32)), .unset, .unset, .unset] [(.int rb), (.ref b44), (.ref b44)])) _
              refine st46 _ ?_
              show Steps p.tables e below (T46.setTop (mkF m 239 #[iv p0, iv p1, iv p2, iv p3, iv p4, iv p5, iv ra, iv rb, iv ib, iv cb, iv ca0, iv ca1, iv cb0, iv cb1, iv (0 : Int32), iv (0 : Int32), rv x22, rv x24, rv b26, iv (((p5.toUInt32 >>> ((5 : Int32) &&& 31).toUInt32).toInt32) &&& (3 : Int32)), .unset, .unset, .unset] [(.ref (own_rs aK aP aS aR rb)), (.ref b44), (.ref b44)])) _
              refine XS.iload X46.here hx rfl (hb hby at_239) rfl ?_
              show Steps p.tables e below (T46.setTop (mkF m 241 #[iv p0, iv p1, iv p2, iv p3, iv p4, iv p5, iv ra, iv rb, iv ib, iv cb, iv ca0, iv ca1, iv cb0, iv cb1, iv (0 : Int32), iv (0 : Int32), rv x22, rv x24, rv b26, iv (((p5.toUInt32 >>> ((5 : Int32) &&& 31).toUInt32).toInt32) &&& (3 : Int32)), .unset, .unset, .unset] [(.int ib), (.ref (own_rs aK aP aS aR rb)), (.ref b44), (.ref b44)])) _
              refine XS.aload X46.here hx rfl (hb hby at_241) rfl rfl ?_
              exact kt
            obtain ⟨_, _, ⟨T48, L48, k48, n48⟩, -, X48, ⟨Lc48, hQ48, l48, y48, z48⟩, st48⟩ := X46.specialBack hx (y := (⟨"com/example/fair_witness/fairwitness/verifier/DecodingFailure", "<init>", "(Lcom/example/fair_witness/fairwitness/verifier/Reason;ILjava/lang/String;)V"⟩ : MethodName)) rfl hown (mvT hZ (hw _ (List.mem_of_getElem? (i := 43) rfl))) (mvT hZ (hw _ (List.mem_of_getElem? (i := 44) rfl))) (mvT hZ (hw _ (List.mem_of_getElem? (i := 45) rfl))) (by decide) (backOf (W := 1) (rm9 l Z a0 hw [] b44 (own_rs aK aP aS aR rb) ib x24 h44 n0 (Nat.le_trans Z0 K44.1) F_reason_b44 F_certificateIndex_b44 F_detail_b44 A44 g_b44) hZ (hw _ (List.mem_of_getElem? (i := 45) rfl)) (hw _ (List.mem_of_getElem? (i := 36) rfl)) (by decide) (by decide)) (g := (mkF m 243 #[iv p0, iv p1, iv p2, iv p3, iv p4, iv p5, iv ra, iv rb, iv ib, iv cb, iv ca0, iv ca1, iv cb0, iv cb1, iv (0 : Int32), iv (0 : Int32), rv x22, rv x24, rv b26, iv (((p5.toUInt32 >>> ((5 : Int32) &&& 31).toUInt32).toInt32) &&& (3 : Int32)), .unset, .unset, .unset] [(.ref x24), (.int ib), (.ref (own_rs aK aP aS aR rb)), (.ref b44), (.ref b44)])) rfl (by rw [hml]; rfl) (Steps.refl _) (a := b44) (argsL := [(.ref (own_rs aK aP aS aR rb)), (.int ib), (.ref x24)]) (rest := [(.ref b44)]) (lenOf pd18 rfl) rfl (by show 2 * 0 + _ ≤ _; exact Nat.le_of_eq rfl) (hb hby at_243) (fun _ _ => ⟨rfl, hh46, (by decide : 8 + 0 ≤ _), (by decide : 22 + 0 ≤ _)⟩)
            dsimp only [Pt.U, Pt.locs, Pt.cells, Pt.slots] at X48 l48 y48 z48 st48 hQ48
            subst l48 y48 z48
            obtain ⟨rfl, N48q, Kc48, F0_48, F1_48, F2_48⟩ := hQ48
            have N48 := Fr.app N46 N48q
            have K48 : Keep h0 T48.heap [] := K44.trans Kc48 (allS (Or.inr sz_b44) all0)
            have pre49 : ∀ t, Steps p.tables e below (T48.setTop (mkF m 248 #[iv p0, iv p1, iv p2, iv p3, iv p4, iv p5, iv ra, iv rb, iv ib, iv cb, iv ca0, iv ca1, iv cb0, iv cb1, iv (0 : Int32), iv (0 : Int32), rv x22, rv x24, rv b26, iv (((p5.toUInt32 >>> ((5 : Int32) &&& 31).toUInt32).toInt32) &&& (3 : Int32)), rv b44, .unset, .unset] [])) t → Steps p.tables e below (s₁.setTop (entryFrame m #[(.int p0), (.int p1), (.int p2), (.int p3), (.int p4), (.int p5)] maxLocals)) t := by
              intro t kt
              refine pre47 _ ?_
              show Steps p.tables e below (T46.setTop (mkF m 243 #[iv p0, iv p1, iv p2, iv p3, iv p4, iv p5, iv ra, iv rb, iv ib, iv cb, iv ca0, iv ca1, iv cb0, iv cb1, iv (0 : Int32), iv (0 : Int32), rv x22, rv x24, rv b26, iv (((p5.toUInt32 >>> ((5 : Int32) &&& 31).toUInt32).toInt32) &&& (3 : Int32)), .unset, .unset, .unset] [(.ref x24), (.int ib), (.ref (own_rs aK aP aS aR rb)), (.ref b44), (.ref b44)])) _
              refine st48.trans ?_
              show Steps p.tables e below (T48.setTop (mkF m 246 #[iv p0, iv p1, iv p2, iv p3, iv p4, iv p5, iv ra, iv rb, iv ib, iv cb, iv ca0, iv ca1, iv cb0, iv cb1, iv (0 : Int32), iv (0 : Int32), rv x22, rv x24, rv b26, iv (((p5.toUInt32 >>> ((5 : Int32) &&& 31).toUInt32).toInt32) &&& (3 : Int32)), .unset, .unset, .unset] [(.ref b44)])) _
              refine XS.astore X48.here hx rfl (hb hby at_246) rfl rfl (l' := #[iv p0, iv p1, iv p2, iv p3, iv p4, iv p5, iv ra, iv rb, iv ib, iv cb, iv ca0, iv ca1, iv cb0, iv cb1, iv (0 : Int32), iv (0 : Int32), rv x22, rv x24, rv b26, iv (((p5.toUInt32 >>> ((5 : Int32) &&& 31).toUInt32).toInt32) &&& (3 : Int32)), rv b44, .unset, .unset]) rfl ?_
              exact kt
            obtain ⟨sd, hsd, pre56⟩ : ∃ (sd : Int32), (((ca0 = cb0) ∧ (ca1 = cb1) ∧ sd = (1 : Int32)) ∨ ((ca0 = cb0) ∧ (¬ (ca1 = cb1)) ∧ sd = (0 : Int32)) ∨ ((¬ (ca0 = cb0)) ∧ sd = (0 : Int32))) ∧ ∀ t, Steps p.tables e below (T48.setTop (mkF m 279 #[iv p0, iv p1, iv p2, iv p3, iv p4, iv p5, iv ra, iv rb, iv ib, iv cb, iv ca0, iv ca1, iv cb0, iv cb1, iv (0 : Int32), iv (0 : Int32), rv x22, rv x24, rv b26, iv (((p5.toUInt32 >>> ((5 : Int32) &&& 31).toUInt32).toInt32) &&& (3 : Int32)), rv b44, .unset, .unset] [(.int sd)])) t → Steps p.tables e below (s₁.setTop (entryFrame m #[(.int p0), (.int p1), (.int p2), (.int p3), (.int p4), (.int p5)] maxLocals)) t := by
              have pre50 : ∀ t, Steps p.tables e below (T48.setTop (mkF m 259 #[iv p0, iv p1, iv p2, iv p3, iv p4, iv p5, iv ra, iv rb, iv ib, iv cb, iv ca0, iv ca1, iv cb0, iv cb1, iv (0 : Int32), iv (0 : Int32), rv x22, rv x24, rv b26, iv (((p5.toUInt32 >>> ((5 : Int32) &&& 31).toUInt32).toInt32) &&& (3 : Int32)), rv b44, .unset, .unset] [(.int cb0), (.int ca0)])) t → Steps p.tables e below (s₁.setTop (entryFrame m #[(.int p0), (.int p1), (.int p2), (.int p3), (.int p4), (.int p5)] maxLocals)) t := by
                intro t kt
                refine pre49 _ ?_
                show Steps p.tables e below (T48.setTop (mkF m 248 #[iv p0, iv p1, iv p2, iv p3, iv p4, iv p5, iv ra, iv rb, iv ib, iv cb, iv ca0, iv ca1, iv cb0, iv cb1, iv (0 : Int32), iv (0 : Int32), rv x22, rv x24, rv b26, iv (((p5.toUInt32 >>> ((5 : Int32) &&& 31).toUInt32).toInt32) &&& (3 : Int32)), rv b44, .unset, .unset] [])) _
                refine XS.iload X48.here hx rfl (hb hby at_248) rfl ?_
                show Steps p.tables e below (T48.setTop (mkF m 250 #[iv p0, iv p1, iv p2, iv p3, iv p4, iv p5, iv ra, iv rb, iv ib, iv cb, iv ca0, iv ca1, iv cb0, iv cb1, iv (0 : Int32), iv (0 : Int32), rv x22, rv x24, rv b26, iv (((p5.toUInt32 >>> ((5 : Int32) &&& 31).toUInt32).toInt32) &&& (3 : Int32)), rv b44, .unset, .unset] [(.int (0 : Int32))])) _
                refine XS.iload X48.here hx rfl (hb hby at_250) rfl ?_
                show Steps p.tables e below (T48.setTop (mkF m 252 #[iv p0, iv p1, iv p2, iv p3, iv p4, iv p5, iv ra, iv rb, iv ib, iv cb, iv ca0, iv ca1, iv cb0, iv cb1, iv (0 : Int32), iv (0 : Int32), rv x22, rv x24, rv b26, iv (((p5.toUInt32 >>> ((5 : Int32) &&& 31).toUInt32).toInt32) &&& (3 : Int32)), rv b44, .unset, .unset] [(.int (0 : Int32)), (.int (0 : Int32))])) _
                refine XS.icmpNo X48.here hx rfl (hb hby at_252) rfl (teq (by decide)).2 ?_
                show Steps p.tables e below (T48.setTop (mkF m 255 #[iv p0, iv p1, iv p2, iv p3, iv p4, iv p5, iv ra, iv rb, iv ib, iv cb, iv ca0, iv ca1, iv cb0, iv cb1, iv (0 : Int32), iv (0 : Int32), rv x22, rv x24, rv b26, iv (((p5.toUInt32 >>> ((5 : Int32) &&& 31).toUInt32).toInt32) &&& (3 : Int32)), rv b44, .unset, .unset] [])) _
                refine XS.iload X48.here hx rfl (hb hby at_255) rfl ?_
                show Steps p.tables e below (T48.setTop (mkF m 257 #[iv p0, iv p1, iv p2, iv p3, iv p4, iv p5, iv ra, iv rb, iv ib, iv cb, iv ca0, iv ca1, iv cb0, iv cb1, iv (0 : Int32), iv (0 : Int32), rv x22, rv x24, rv b26, iv (((p5.toUInt32 >>> ((5 : Int32) &&& 31).toUInt32).toInt32) &&& (3 : Int32)), rv b44, .unset, .unset] [(.int ca0)])) _
                refine XS.iload X48.here hx rfl (hb hby at_257) rfl ?_
                exact kt
              by_cases hc259 : ca0 = cb0
              · have pre51 : ∀ t, Steps p.tables e below (T48.setTop (mkF m 271 #[iv p0, iv p1, iv p2, iv p3, iv p4, iv p5, iv ra, iv rb, iv ib, iv cb, iv ca0, iv ca1, iv cb0, iv cb1, iv (0 : Int32), iv (0 : Int32), rv x22, rv x24, rv b26, iv (((p5.toUInt32 >>> ((5 : Int32) &&& 31).toUInt32).toInt32) &&& (3 : Int32)), rv b44, .unset, .unset] [(.int cb1), (.int ca1)])) t → Steps p.tables e below (s₁.setTop (entryFrame m #[(.int p0), (.int p1), (.int p2), (.int p3), (.int p4), (.int p5)] maxLocals)) t := by
                  intro t kt
                  refine pre50 _ ?_
                  show Steps p.tables e below (T48.setTop (mkF m 259 #[iv p0, iv p1, iv p2, iv p3, iv p4, iv p5, iv ra, iv rb, iv ib, iv cb, iv ca0, iv ca1, iv cb0, iv cb1, iv (0 : Int32), iv (0 : Int32), rv x22, rv x24, rv b26, iv (((p5.toUInt32 >>> ((5 : Int32) &&& 31).toUInt32).toInt32) &&& (3 : Int32)), rv b44, .unset, .unset] [(.int cb0), (.int ca0)])) _
                  refine XS.icmpNo X48.here hx rfl (hb hby at_259) rfl (teq hc259).2 ?_
                  show Steps p.tables e below (T48.setTop (mkF m 262 #[iv p0, iv p1, iv p2, iv p3, iv p4, iv p5, iv ra, iv rb, iv ib, iv cb, iv ca0, iv ca1, iv cb0, iv cb1, iv (0 : Int32), iv (0 : Int32), rv x22, rv x24, rv b26, iv (((p5.toUInt32 >>> ((5 : Int32) &&& 31).toUInt32).toInt32) &&& (3 : Int32)), rv b44, .unset, .unset] [])) _
                  refine XS.iload X48.here hx rfl (hb hby at_262) rfl ?_
                  show Steps p.tables e below (T48.setTop (mkF m 264 #[iv p0, iv p1, iv p2, iv p3, iv p4, iv p5, iv ra, iv rb, iv ib, iv cb, iv ca0, iv ca1, iv cb0, iv cb1, iv (0 : Int32), iv (0 : Int32), rv x22, rv x24, rv b26, iv (((p5.toUInt32 >>> ((5 : Int32) &&& 31).toUInt32).toInt32) &&& (3 : Int32)), rv b44, .unset, .unset] [(.int (0 : Int32))])) _
                  refine XS.ifNo X48.here hx rfl (hb hby at_264) rfl ((if0 _ _).trans (teq (by decide)).2) ?_
                  show Steps p.tables e below (T48.setTop (mkF m 267 #[iv p0, iv p1, iv p2, iv p3, iv p4, iv p5, iv ra, iv rb, iv ib, iv cb, iv ca0, iv ca1, iv cb0, iv cb1, iv (0 : Int32), iv (0 : Int32), rv x22, rv x24, rv b26, iv (((p5.toUInt32 >>> ((5 : Int32) &&& 31).toUInt32).toInt32) &&& (3 : Int32)), rv b44, .unset, .unset] [])) _
                  refine XS.iload X48.here hx rfl (hb hby at_267) rfl ?_
                  show Steps p.tables e below (T48.setTop (mkF m 269 #[iv p0, iv p1, iv p2, iv p3, iv p4, iv p5, iv ra, iv rb, iv ib, iv cb, iv ca0, iv ca1, iv cb0, iv cb1, iv (0 : Int32), iv (0 : Int32), rv x22, rv x24, rv b26, iv (((p5.toUInt32 >>> ((5 : Int32) &&& 31).toUInt32).toInt32) &&& (3 : Int32)), rv b44, .unset, .unset] [(.int ca1)])) _
                  refine XS.iload X48.here hx rfl (hb hby at_269) rfl ?_
                  exact kt
                by_cases hc271 : ca1 = cb1
                · have pre52 : ∀ t, Steps p.tables e below (T48.setTop (mkF m 279 #[iv p0, iv p1, iv p2, iv p3, iv p4, iv p5, iv ra, iv rb, iv ib, iv cb, iv ca0, iv ca1, iv cb0, iv cb1, iv (0 : Int32), iv (0 : Int32), rv x22, rv x24, rv b26, iv (((p5.toUInt32 >>> ((5 : Int32) &&& 31).toUInt32).toInt32) &&& (3 : Int32)), rv b44, .unset, .unset] [(.int (1 : Int32))])) t → Steps p.tables e below (s₁.setTop (entryFrame m #[(.int p0), (.int p1), (.int p2), (.int p3), (.int p4), (.int p5)] maxLocals)) t := by
                    intro t kt
                    refine pre51 _ ?_
                    show Steps p.tables e below (T48.setTop (mkF m 271 #[iv p0, iv p1, iv p2, iv p3, iv p4, iv p5, iv ra, iv rb, iv ib, iv cb, iv ca0, iv ca1, iv cb0, iv cb1, iv (0 : Int32), iv (0 : Int32), rv x22, rv x24, rv b26, iv (((p5.toUInt32 >>> ((5 : Int32) &&& 31).toUInt32).toInt32) &&& (3 : Int32)), rv b44, .unset, .unset] [(.int cb1), (.int ca1)])) _
                    refine XS.icmpNo X48.here hx rfl (hb hby at_271) rfl (teq hc271).2 ?_
                    show Steps p.tables e below (T48.setTop (mkF m 274 #[iv p0, iv p1, iv p2, iv p3, iv p4, iv p5, iv ra, iv rb, iv ib, iv cb, iv ca0, iv ca1, iv cb0, iv cb1, iv (0 : Int32), iv (0 : Int32), rv x22, rv x24, rv b26, iv (((p5.toUInt32 >>> ((5 : Int32) &&& 31).toUInt32).toInt32) &&& (3 : Int32)), rv b44, .unset, .unset] [])) _
                    refine XS.iconst X48.here hx rfl (hb hby at_274) ?_
                    show Steps p.tables e below (T48.setTop (mkF m 275 #[iv p0, iv p1, iv p2, iv p3, iv p4, iv p5, iv ra, iv rb, iv ib, iv cb, iv ca0, iv ca1, iv cb0, iv cb1, iv (0 : Int32), iv (0 : Int32), rv x22, rv x24, rv b26, iv (((p5.toUInt32 >>> ((5 : Int32) &&& 31).toUInt32).toInt32) &&& (3 : Int32)), rv b44, .unset, .unset] [(.int (1 : Int32))])) _
                    refine XS.goto X48.here hx rfl (pc0 := 275) (pc' := 279) rfl (hb hby at_275) (by decide) (by decide) ?_
                    exact kt
                  exact ⟨(1 : Int32), Or.inl ⟨hc259, hc271, rfl⟩, pre52⟩
                · have pre53 : ∀ t, Steps p.tables e below (T48.setTop (mkF m 279 #[iv p0, iv p1, iv p2, iv p3, iv p4, iv p5, iv ra, iv rb, iv ib, iv cb, iv ca0, iv ca1, iv cb0, iv cb1, iv (0 : Int32), iv (0 : Int32), rv x22, rv x24, rv b26, iv (((p5.toUInt32 >>> ((5 : Int32) &&& 31).toUInt32).toInt32) &&& (3 : Int32)), rv b44, .unset, .unset] [(.int (0 : Int32))])) t → Steps p.tables e below (s₁.setTop (entryFrame m #[(.int p0), (.int p1), (.int p2), (.int p3), (.int p4), (.int p5)] maxLocals)) t := by
                    intro t kt
                    refine pre51 _ ?_
                    show Steps p.tables e below (T48.setTop (mkF m 271 #[iv p0, iv p1, iv p2, iv p3, iv p4, iv p5, iv ra, iv rb, iv ib, iv cb, iv ca0, iv ca1, iv cb0, iv cb1, iv (0 : Int32), iv (0 : Int32), rv x22, rv x24, rv b26, iv (((p5.toUInt32 >>> ((5 : Int32) &&& 31).toUInt32).toInt32) &&& (3 : Int32)), rv b44, .unset, .unset] [(.int cb1), (.int ca1)])) _
                    refine XS.icmpYes X48.here hx rfl (pc0 := 271) (pc' := 278) rfl (hb hby at_271) rfl (feq hc271).2 (by decide) (by decide) ?_
                    show Steps p.tables e below (T48.setTop (mkF m 278 #[iv p0, iv p1, iv p2, iv p3, iv p4, iv p5, iv ra, iv rb, iv ib, iv cb, iv ca0, iv ca1, iv cb0, iv cb1, iv (0 : Int32), iv (0 : Int32), rv x22, rv x24, rv b26, iv (((p5.toUInt32 >>> ((5 : Int32) &&& 31).toUInt32).toInt32) &&& (3 : Int32)), rv b44, .unset, .unset] [])) _
                    refine XS.iconst X48.here hx rfl (hb hby at_278) ?_
                    exact kt
                  exact ⟨(0 : Int32), Or.inr (Or.inl ⟨hc259, hc271, rfl⟩), pre53⟩
              · have pre54 : ∀ t, Steps p.tables e below (T48.setTop (mkF m 279 #[iv p0, iv p1, iv p2, iv p3, iv p4, iv p5, iv ra, iv rb, iv ib, iv cb, iv ca0, iv ca1, iv cb0, iv cb1, iv (0 : Int32), iv (0 : Int32), rv x22, rv x24, rv b26, iv (((p5.toUInt32 >>> ((5 : Int32) &&& 31).toUInt32).toInt32) &&& (3 : Int32)), rv b44, .unset, .unset] [(.int (0 : Int32))])) t → Steps p.tables e below (s₁.setTop (entryFrame m #[(.int p0), (.int p1), (.int p2), (.int p3), (.int p4), (.int p5)] maxLocals)) t := by
                  intro t kt
                  refine pre50 _ ?_
                  show Steps p.tables e below (T48.setTop (mkF m 259 #[iv p0, iv p1, iv p2, iv p3, iv p4, iv p5, iv ra, iv rb, iv ib, iv cb, iv ca0, iv ca1, iv cb0, iv cb1, iv (0 : Int32), iv (0 : Int32), rv x22, rv x24, rv b26, iv (((p5.toUInt32 >>> ((5 : Int32) &&& 31).toUInt32).toInt32) &&& (3 : Int32)), rv b44, .unset, .unset] [(.int cb0), (.int ca0)])) _
                  refine XS.icmpYes X48.here hx rfl (pc0 := 259) (pc' := 278) rfl (hb hby at_259) rfl (feq hc259).2 (by decide) (by decide) ?_
                  show Steps p.tables e below (T48.setTop (mkF m 278 #[iv p0, iv p1, iv p2, iv p3, iv p4, iv p5, iv ra, iv rb, iv ib, iv cb, iv ca0, iv ca1, iv cb0, iv cb1, iv (0 : Int32), iv (0 : Int32), rv x22, rv x24, rv b26, iv (((p5.toUInt32 >>> ((5 : Int32) &&& 31).toUInt32).toInt32) &&& (3 : Int32)), rv b44, .unset, .unset] [])) _
                  refine XS.iconst X48.here hx rfl (hb hby at_278) ?_
                  exact kt
                exact ⟨(0 : Int32), Or.inr (Or.inr (⟨hc259, rfl⟩)), pre54⟩
            have pre57 : ∀ t, Steps p.tables e below (T48.setTop (mkF m 281 #[iv p0, iv p1, iv p2, iv p3, iv p4, iv p5, iv ra, iv rb, iv ib, iv cb, iv ca0, iv ca1, iv cb0, iv cb1, iv (0 : Int32), iv (0 : Int32), rv x22, rv x24, rv b26, iv (((p5.toUInt32 >>> ((5 : Int32) &&& 31).toUInt32).toInt32) &&& (3 : Int32)), rv b44, iv sd, .unset] [])) t → Steps p.tables e below (s₁.setTop (entryFrame m #[(.int p0), (.int p1), (.int p2), (.int p3), (.int p4), (.int p5)] maxLocals)) t := by
              intro t kt
              refine pre56 _ ?_
              show Steps p.tables e below (T48.setTop (mkF m 279 #[iv p0, iv p1, iv p2, iv p3, iv p4, iv p5, iv ra, iv rb, iv ib, iv cb, iv ca0, iv ca1, iv cb0, iv cb1, iv (0 : Int32), iv (0 : Int32), rv x22, rv x24, rv b26, iv (((p5.toUInt32 >>> ((5 : Int32) &&& 31).toUInt32).toInt32) &&& (3 : Int32)), rv b44, .unset, .unset] [(.int sd)])) _
              refine XS.istore X48.here hx rfl (hb hby at_279) rfl (l' := #[iv p0, iv p1, iv p2, iv p3, iv p4, iv p5, iv ra, iv rb, iv ib, iv cb, iv ca0, iv ca1, iv cb0, iv cb1, iv (0 : Int32), iv (0 : Int32), rv x22, rv x24, rv b26, iv (((p5.toUInt32 >>> ((5 : Int32) &&& 31).toUInt32).toInt32) &&& (3 : Int32)), rv b44, iv sd, .unset]) rfl ?_
              exact kt
            obtain ⟨ex, hex, pre66⟩ : ∃ (ex : Int32), (((ra = rb) ∧ (p1 = ib) ∧ (sd = (0 : Int32)) ∧ ex = (0 : Int32)) ∨ ((ra = rb) ∧ (p1 = ib) ∧ (¬ (sd = (0 : Int32))) ∧ ex = (1 : Int32)) ∨ ((ra = rb) ∧ (¬ (p1 = ib)) ∧ ex = (0 : Int32)) ∨ ((¬ (ra = rb)) ∧ ex = (0 : Int32))) ∧ ∀ t, Steps p.tables e below (T48.setTop (mkF m 304 #[iv p0, iv p1, iv p2, iv p3, iv p4, iv p5, iv ra, iv rb, iv ib, iv cb, iv ca0, iv ca1, iv cb0, iv cb1, iv (0 : Int32), iv (0 : Int32), rv x22, rv x24, rv b26, iv (((p5.toUInt32 >>> ((5 : Int32) &&& 31).toUInt32).toInt32) &&& (3 : Int32)), rv b44, iv sd, .unset] [(.int ex)])) t → Steps p.tables e below (s₁.setTop (entryFrame m #[(.int p0), (.int p1), (.int p2), (.int p3), (.int p4), (.int p5)] maxLocals)) t := by
              have pre58 : ∀ t, Steps p.tables e below (T48.setTop (mkF m 285 #[iv p0, iv p1, iv p2, iv p3, iv p4, iv p5, iv ra, iv rb, iv ib, iv cb, iv ca0, iv ca1, iv cb0, iv cb1, iv (0 : Int32), iv (0 : Int32), rv x22, rv x24, rv b26, iv (((p5.toUInt32 >>> ((5 : Int32) &&& 31).toUInt32).toInt32) &&& (3 : Int32)), rv b44, iv sd, .unset] [(.int rb), (.int ra)])) t → Steps p.tables e below (s₁.setTop (entryFrame m #[(.int p0), (.int p1), (.int p2), (.int p3), (.int p4), (.int p5)] maxLocals)) t := by
                intro t kt
                refine pre57 _ ?_
                show Steps p.tables e below (T48.setTop (mkF m 281 #[iv p0, iv p1, iv p2, iv p3, iv p4, iv p5, iv ra, iv rb, iv ib, iv cb, iv ca0, iv ca1, iv cb0, iv cb1, iv (0 : Int32), iv (0 : Int32), rv x22, rv x24, rv b26, iv (((p5.toUInt32 >>> ((5 : Int32) &&& 31).toUInt32).toInt32) &&& (3 : Int32)), rv b44, iv sd, .unset] [])) _
                refine XS.iload X48.here hx rfl (hb hby at_281) rfl ?_
                show Steps p.tables e below (T48.setTop (mkF m 283 #[iv p0, iv p1, iv p2, iv p3, iv p4, iv p5, iv ra, iv rb, iv ib, iv cb, iv ca0, iv ca1, iv cb0, iv cb1, iv (0 : Int32), iv (0 : Int32), rv x22, rv x24, rv b26, iv (((p5.toUInt32 >>> ((5 : Int32) &&& 31).toUInt32).toInt32) &&& (3 : Int32)), rv b44, iv sd, .unset] [(.int ra)])) _
                refine XS.iload X48.here hx rfl (hb hby at_283) rfl ?_
                exact kt
              by_cases hc285 : ra = rb
              · have pre59 : ∀ t, Steps p.tables e below (T48.setTop (mkF m 291 #[iv p0, iv p1, iv p2, iv p3, iv p4, iv p5, iv ra, iv rb, iv ib, iv cb, iv ca0, iv ca1, iv cb0, iv cb1, iv (0 : Int32), iv (0 : Int32), rv x22, rv x24, rv b26, iv (((p5.toUInt32 >>> ((5 : Int32) &&& 31).toUInt32).toInt32) &&& (3 : Int32)), rv b44, iv sd, .unset] [(.int ib), (.int p1)])) t → Steps p.tables e below (s₁.setTop (entryFrame m #[(.int p0), (.int p1), (.int p2), (.int p3), (.int p4), (.int p5)] maxLocals)) t := by
                  intro t kt
                  refine pre58 _ ?_
                  show Steps p.tables e below (T48.setTop (mkF m 285 #[iv p0, iv p1, iv p2, iv p3, iv p4, iv p5, iv ra, iv rb, iv ib, iv cb, iv ca0, iv ca1, iv cb0, iv cb1, iv (0 : Int32), iv (0 : Int32), rv x22, rv x24, rv b26, iv (((p5.toUInt32 >>> ((5 : Int32) &&& 31).toUInt32).toInt32) &&& (3 : Int32)), rv b44, iv sd, .unset] [(.int rb), (.int ra)])) _
                  refine XS.icmpNo X48.here hx rfl (hb hby at_285) rfl (teq hc285).2 ?_
                  show Steps p.tables e below (T48.setTop (mkF m 288 #[iv p0, iv p1, iv p2, iv p3, iv p4, iv p5, iv ra, iv rb, iv ib, iv cb, iv ca0, iv ca1, iv cb0, iv cb1, iv (0 : Int32), iv (0 : Int32), rv x22, rv x24, rv b26, iv (((p5.toUInt32 >>> ((5 : Int32) &&& 31).toUInt32).toInt32) &&& (3 : Int32)), rv b44, iv sd, .unset] [])) _
                  refine XS.iloadN X48.here hx rfl (hb hby at_288) rfl ?_
                  show Steps p.tables e below (T48.setTop (mkF m 289 #[iv p0, iv p1, iv p2, iv p3, iv p4, iv p5, iv ra, iv rb, iv ib, iv cb, iv ca0, iv ca1, iv cb0, iv cb1, iv (0 : Int32), iv (0 : Int32), rv x22, rv x24, rv b26, iv (((p5.toUInt32 >>> ((5 : Int32) &&& 31).toUInt32).toInt32) &&& (3 : Int32)), rv b44, iv sd, .unset] [(.int p1)])) _
                  refine XS.iload X48.here hx rfl (hb hby at_289) rfl ?_
                  exact kt
                by_cases hc291 : p1 = ib
                · have pre60 : ∀ t, Steps p.tables e below (T48.setTop (mkF m 296 #[iv p0, iv p1, iv p2, iv p3, iv p4, iv p5, iv ra, iv rb, iv ib, iv cb, iv ca0, iv ca1, iv cb0, iv cb1, iv (0 : Int32), iv (0 : Int32), rv x22, rv x24, rv b26, iv (((p5.toUInt32 >>> ((5 : Int32) &&& 31).toUInt32).toInt32) &&& (3 : Int32)), rv b44, iv sd, .unset] [(.int sd)])) t → Steps p.tables e below (s₁.setTop (entryFrame m #[(.int p0), (.int p1), (.int p2), (.int p3), (.int p4), (.int p5)] maxLocals)) t := by
                    intro t kt
                    refine pre59 _ ?_
                    show Steps p.tables e below (T48.setTop (mkF m 291 #[iv p0, iv p1, iv p2, iv p3, iv p4, iv p5, iv ra, iv rb, iv ib, iv cb, iv ca0, iv ca1, iv cb0, iv cb1, iv (0 : Int32), iv (0 : Int32), rv x22, rv x24, rv b26, iv (((p5.toUInt32 >>> ((5 : Int32) &&& 31).toUInt32).toInt32) &&& (3 : Int32)), rv b44, iv sd, .unset] [(.int ib), (.int p1)])) _
                    refine XS.icmpNo X48.here hx rfl (hb hby at_291) rfl (teq hc291).2 ?_
                    show Steps p.tables e below (T48.setTop (mkF m 294 #[iv p0, iv p1, iv p2, iv p3, iv p4, iv p5, iv ra, iv rb, iv ib, iv cb, iv ca0, iv ca1, iv cb0, iv cb1, iv (0 : Int32), iv (0 : Int32), rv x22, rv x24, rv b26, iv (((p5.toUInt32 >>> ((5 : Int32) &&& 31).toUInt32).toInt32) &&& (3 : Int32)), rv b44, iv sd, .unset] [])) _
                    refine XS.iload X48.here hx rfl (hb hby at_294) rfl ?_
                    exact kt
                  by_cases hc296 : sd = (0 : Int32)
                  · have pre61 : ∀ t, Steps p.tables e below (T48.setTop (mkF m 304 #[iv p0, iv p1, iv p2, iv p3, iv p4, iv p5, iv ra, iv rb, iv ib, iv cb, iv ca0, iv ca1, iv cb0, iv cb1, iv (0 : Int32), iv (0 : Int32), rv x22, rv x24, rv b26, iv (((p5.toUInt32 >>> ((5 : Int32) &&& 31).toUInt32).toInt32) &&& (3 : Int32)), rv b44, iv sd, .unset] [(.int (0 : Int32))])) t → Steps p.tables e below (s₁.setTop (entryFrame m #[(.int p0), (.int p1), (.int p2), (.int p3), (.int p4), (.int p5)] maxLocals)) t := by
                      intro t kt
                      refine pre60 _ ?_
                      show Steps p.tables e below (T48.setTop (mkF m 296 #[iv p0, iv p1, iv p2, iv p3, iv p4, iv p5, iv ra, iv rb, iv ib, iv cb, iv ca0, iv ca1, iv cb0, iv cb1, iv (0 : Int32), iv (0 : Int32), rv x22, rv x24, rv b26, iv (((p5.toUInt32 >>> ((5 : Int32) &&& 31).toUInt32).toInt32) &&& (3 : Int32)), rv b44, iv sd, .unset] [(.int sd)])) _
                      refine XS.ifYes X48.here hx rfl (pc0 := 296) (pc' := 303) rfl (hb hby at_296) rfl ((if0 _ _).trans (teq hc296).1) (by decide) (by decide) ?_
                      show Steps p.tables e below (T48.setTop (mkF m 303 #[iv p0, iv p1, iv p2, iv p3, iv p4, iv p5, iv ra, iv rb, iv ib, iv cb, iv ca0, iv ca1, iv cb0, iv cb1, iv (0 : Int32), iv (0 : Int32), rv x22, rv x24, rv b26, iv (((p5.toUInt32 >>> ((5 : Int32) &&& 31).toUInt32).toInt32) &&& (3 : Int32)), rv b44, iv sd, .unset] [])) _
                      refine XS.iconst X48.here hx rfl (hb hby at_303) ?_
                      exact kt
                    exact ⟨(0 : Int32), Or.inl ⟨hc285, hc291, hc296, rfl⟩, pre61⟩
                  · have pre62 : ∀ t, Steps p.tables e below (T48.setTop (mkF m 304 #[iv p0, iv p1, iv p2, iv p3, iv p4, iv p5, iv ra, iv rb, iv ib, iv cb, iv ca0, iv ca1, iv cb0, iv cb1, iv (0 : Int32), iv (0 : Int32), rv x22, rv x24, rv b26, iv (((p5.toUInt32 >>> ((5 : Int32) &&& 31).toUInt32).toInt32) &&& (3 : Int32)), rv b44, iv sd, .unset] [(.int (1 : Int32))])) t → Steps p.tables e below (s₁.setTop (entryFrame m #[(.int p0), (.int p1), (.int p2), (.int p3), (.int p4), (.int p5)] maxLocals)) t := by
                      intro t kt
                      refine pre60 _ ?_
                      show Steps p.tables e below (T48.setTop (mkF m 296 #[iv p0, iv p1, iv p2, iv p3, iv p4, iv p5, iv ra, iv rb, iv ib, iv cb, iv ca0, iv ca1, iv cb0, iv cb1, iv (0 : Int32), iv (0 : Int32), rv x22, rv x24, rv b26, iv (((p5.toUInt32 >>> ((5 : Int32) &&& 31).toUInt32).toInt32) &&& (3 : Int32)), rv b44, iv sd, .unset] [(.int sd)])) _
                      refine XS.ifNo X48.here hx rfl (hb hby at_296) rfl ((if0 _ _).trans (feq hc296).1) ?_
                      show Steps p.tables e below (T48.setTop (mkF m 299 #[iv p0, iv p1, iv p2, iv p3, iv p4, iv p5, iv ra, iv rb, iv ib, iv cb, iv ca0, iv ca1, iv cb0, iv cb1, iv (0 : Int32), iv (0 : Int32), rv x22, rv x24, rv b26, iv (((p5.toUInt32 >>> ((5 : Int32) &&& 31).toUInt32).toInt32) &&& (3 : Int32)), rv b44, iv sd, .unset] [])) _
                      refine XS.iconst X48.here hx rfl (hb hby at_299) ?_
                      show Steps p.tables e below (T48.setTop (mkF m 300 #[iv p0, iv p1, iv p2, iv p3, iv p4, iv p5, iv ra, iv rb, iv ib, iv cb, iv ca0, iv ca1, iv cb0, iv cb1, iv (0 : Int32), iv (0 : Int32), rv x22, rv x24, rv b26, iv (((p5.toUInt32 >>> ((5 : Int32) &&& 31).toUInt32).toInt32) &&& (3 : Int32)), rv b44, iv sd, .unset] [(.int (1 : Int32))])) _
                      refine XS.goto X48.here hx rfl (pc0 := 300) (pc' := 304) rfl (hb hby at_300) (by decide) (by decide) ?_
                      exact kt
                    exact ⟨(1 : Int32), Or.inr (Or.inl ⟨hc285, hc291, hc296, rfl⟩), pre62⟩
                · have pre63 : ∀ t, Steps p.tables e below (T48.setTop (mkF m 304 #[iv p0, iv p1, iv p2, iv p3, iv p4, iv p5, iv ra, iv rb, iv ib, iv cb, iv ca0, iv ca1, iv cb0, iv cb1, iv (0 : Int32), iv (0 : Int32), rv x22, rv x24, rv b26, iv (((p5.toUInt32 >>> ((5 : Int32) &&& 31).toUInt32).toInt32) &&& (3 : Int32)), rv b44, iv sd, .unset] [(.int (0 : Int32))])) t → Steps p.tables e below (s₁.setTop (entryFrame m #[(.int p0), (.int p1), (.int p2), (.int p3), (.int p4), (.int p5)] maxLocals)) t := by
                    intro t kt
                    refine pre59 _ ?_
                    show Steps p.tables e below (T48.setTop (mkF m 291 #[iv p0, iv p1, iv p2, iv p3, iv p4, iv p5, iv ra, iv rb, iv ib, iv cb, iv ca0, iv ca1, iv cb0, iv cb1, iv (0 : Int32), iv (0 : Int32), rv x22, rv x24, rv b26, iv (((p5.toUInt32 >>> ((5 : Int32) &&& 31).toUInt32).toInt32) &&& (3 : Int32)), rv b44, iv sd, .unset] [(.int ib), (.int p1)])) _
                    refine XS.icmpYes X48.here hx rfl (pc0 := 291) (pc' := 303) rfl (hb hby at_291) rfl (feq hc291).2 (by decide) (by decide) ?_
                    show Steps p.tables e below (T48.setTop (mkF m 303 #[iv p0, iv p1, iv p2, iv p3, iv p4, iv p5, iv ra, iv rb, iv ib, iv cb, iv ca0, iv ca1, iv cb0, iv cb1, iv (0 : Int32), iv (0 : Int32), rv x22, rv x24, rv b26, iv (((p5.toUInt32 >>> ((5 : Int32) &&& 31).toUInt32).toInt32) &&& (3 : Int32)), rv b44, iv sd, .unset] [])) _
                    refine XS.iconst X48.here hx rfl (hb hby at_303) ?_
                    exact kt
                  exact ⟨(0 : Int32), Or.inr (Or.inr (Or.inl ⟨hc285, hc291, rfl⟩)), pre63⟩
              · have pre64 : ∀ t, Steps p.tables e below (T48.setTop (mkF m 304 #[iv p0, iv p1, iv p2, iv p3, iv p4, iv p5, iv ra, iv rb, iv ib, iv cb, iv ca0, iv ca1, iv cb0, iv cb1, iv (0 : Int32), iv (0 : Int32), rv x22, rv x24, rv b26, iv (((p5.toUInt32 >>> ((5 : Int32) &&& 31).toUInt32).toInt32) &&& (3 : Int32)), rv b44, iv sd, .unset] [(.int (0 : Int32))])) t → Steps p.tables e below (s₁.setTop (entryFrame m #[(.int p0), (.int p1), (.int p2), (.int p3), (.int p4), (.int p5)] maxLocals)) t := by
                  intro t kt
                  refine pre58 _ ?_
                  show Steps p.tables e below (T48.setTop (mkF m 285 #[iv p0, iv p1, iv p2, iv p3, iv p4, iv p5, iv ra, iv rb, iv ib, iv cb, iv ca0, iv ca1, iv cb0, iv cb1, iv (0 : Int32), iv (0 : Int32), rv x22, rv x24, rv b26, iv (((p5.toUInt32 >>> ((5 : Int32) &&& 31).toUInt32).toInt32) &&& (3 : Int32)), rv b44, iv sd, .unset] [(.int rb), (.int ra)])) _
                  refine XS.icmpYes X48.here hx rfl (pc0 := 285) (pc' := 303) rfl (hb hby at_285) rfl (feq hc285).2 (by decide) (by decide) ?_
                  show Steps p.tables e below (T48.setTop (mkF m 303 #[iv p0, iv p1, iv p2, iv p3, iv p4, iv p5, iv ra, iv rb, iv ib, iv cb, iv ca0, iv ca1, iv cb0, iv cb1, iv (0 : Int32), iv (0 : Int32), rv x22, rv x24, rv b26, iv (((p5.toUInt32 >>> ((5 : Int32) &&& 31).toUInt32).toInt32) &&& (3 : Int32)), rv b44, iv sd, .unset] [])) _
                  refine XS.iconst X48.here hx rfl (hb hby at_303) ?_
                  exact kt
                exact ⟨(0 : Int32), Or.inr (Or.inr (Or.inr (⟨hc285, rfl⟩))), pre64⟩
            have pre67 : ∀ t, Steps p.tables e below (T48.setTop (mkF m 310 #[iv p0, iv p1, iv p2, iv p3, iv p4, iv p5, iv ra, iv rb, iv ib, iv cb, iv ca0, iv ca1, iv cb0, iv cb1, iv (0 : Int32), iv (0 : Int32), rv x22, rv x24, rv b26, iv (((p5.toUInt32 >>> ((5 : Int32) &&& 31).toUInt32).toInt32) &&& (3 : Int32)), rv b44, iv sd, iv ex] [(.ref b44), (.ref b26)])) t → Steps p.tables e below (s₁.setTop (entryFrame m #[(.int p0), (.int p1), (.int p2), (.int p3), (.int p4), (.int p5)] maxLocals)) t := by
              intro t kt
              refine pre66 _ ?_
              show Steps p.tables e below (T48.setTop (mkF m 304 #[iv p0, iv p1, iv p2, iv p3, iv p4, iv p5, iv ra, iv rb, iv ib, iv cb, iv ca0, iv ca1, iv cb0, iv cb1, iv (0 : Int32), iv (0 : Int32), rv x22, rv x24, rv b26, iv (((p5.toUInt32 >>> ((5 : Int32) &&& 31).toUInt32).toInt32) &&& (3 : Int32)), rv b44, iv sd, .unset] [(.int ex)])) _
              refine XS.istore X48.here hx rfl (hb hby at_304) rfl (l' := #[iv p0, iv p1, iv p2, iv p3, iv p4, iv p5, iv ra, iv rb, iv ib, iv cb, iv ca0, iv ca1, iv cb0, iv cb1, iv (0 : Int32), iv (0 : Int32), rv x22, rv x24, rv b26, iv (((p5.toUInt32 >>> ((5 : Int32) &&& 31).toUInt32).toInt32) &&& (3 : Int32)), rv b44, iv sd, iv ex]) rfl ?_
              show Steps p.tables e below (T48.setTop (mkF m 306 #[iv p0, iv p1, iv p2, iv p3, iv p4, iv p5, iv ra, iv rb, iv ib, iv cb, iv ca0, iv ca1, iv cb0, iv cb1, iv (0 : Int32), iv (0 : Int32), rv x22, rv x24, rv b26, iv (((p5.toUInt32 >>> ((5 : Int32) &&& 31).toUInt32).toInt32) &&& (3 : Int32)), rv b44, iv sd, iv ex] [])) _
              refine XS.aload X48.here hx rfl (hb hby at_306) rfl rfl ?_
              show Steps p.tables e below (T48.setTop (mkF m 308 #[iv p0, iv p1, iv p2, iv p3, iv p4, iv p5, iv ra, iv rb, iv ib, iv cb, iv ca0, iv ca1, iv cb0, iv cb1, iv (0 : Int32), iv (0 : Int32), rv x22, rv x24, rv b26, iv (((p5.toUInt32 >>> ((5 : Int32) &&& 31).toUInt32).toInt32) &&& (3 : Int32)), rv b44, iv sd, iv ex] [(.ref b26)])) _
              refine XS.aload X48.here hx rfl (hb hby at_308) rfl rfl ?_
              exact kt
            obtain ⟨cq68, kq68, q68a, q68b, q68c⟩ := isOf hZ rfl (((A26.keep Kc30).ext E44).keep Kc48)
            obtain ⟨_, _, ⟨T68, L68, k68, n68⟩, -, X68, ⟨Lc68, hQ68, l68, y68, z68⟩, st68⟩ := X48.virtualBack hx (y := (⟨"com/example/fair_witness/fairwitness/verifier/DecodingFailure", "equals", "(Ljava/lang/Object;)Z"⟩ : MethodName)) (z := (⟨"com/example/fair_witness/fairwitness/verifier/DecodingFailure", "equals", "(Ljava/lang/Object;)Z"⟩ : MethodName)) hown (mvT hZ (hw _ (List.mem_of_getElem? (i := 53) rfl))) (mvT hZ (hw _ (List.mem_of_getElem? (i := 54) rfl))) (notFace_of_selects (args := #[]) (mvT hZ (hw _ (List.mem_of_getElem? (i := 56) rfl)))) (mvT hZ (hw _ (List.mem_of_getElem? (i := 56) rfl))) (mvT hZ (hw _ (List.mem_of_getElem? (i := 55) rfl))) (by decide) (backOf (W := 0) (rm10v22 l Z a0 hw [] b26 b44 (own_rs aK aP aS aR ra) p1 x22 (own_rs aK aP aS aR rb) ib x24 y22 y24 ky22 ky24 (ca0.toInt8.toInt32) (ca1.toInt8.toInt32) (cb0.toInt8.toInt32) (cb1.toInt8.toInt32) cs T48.heap n0 (Nat.le_trans Z0 K48.1) (O0.keep K48 all0) S_cs hcs ((F0_30.ext E44).keep Kc48 (ninS (Nat.ne_of_lt (Nat.lt_of_lt_of_le (A26.keep Kc30).lt (Nat.le_of_eq g44.symm))) nin0)) ((F1_30.ext E44).keep Kc48 (ninS (Nat.ne_of_lt (Nat.lt_of_lt_of_le (A26.keep Kc30).lt (Nat.le_of_eq g44.symm))) nin0)) ((F2_30.ext E44).keep Kc48 (ninS (Nat.ne_of_lt (Nat.lt_of_lt_of_le (A26.keep Kc30).lt (Nat.le_of_eq g44.symm))) nin0)) (((A26.keep Kc30).ext E44).keep Kc48) F0_48 F1_48 F2_48 (A44.keep Kc48) (((((Fv22.keep Kc24 nin0).ext E26).keep Kc30 (ninS (Nat.ne_of_lt (Nat.lt_of_lt_of_le (Ex22.keep Kc24).lt (Nat.le_of_eq g26.symm))) nin0)).ext E44).keep Kc48 (ninS (Nat.ne_of_lt (Nat.lt_of_lt_of_le (((Ex22.keep Kc24).ext E26).keep Kc30).lt (Nat.le_of_eq g44.symm))) nin0)) (((((Fc22.keep Kc24 nin0).ext E26).keep Kc30 (ninS (Nat.ne_of_lt (Nat.lt_of_lt_of_le (Ex22.keep Kc24).lt (Nat.le_of_eq g26.symm))) nin0)).ext E44).keep Kc48 (ninS (Nat.ne_of_lt (Nat.lt_of_lt_of_le (((Ex22.keep Kc24).ext E26).keep Kc30).lt (Nat.le_of_eq g44.symm))) nin0)) (((((Ex22.keep Kc24).ext E26).keep Kc30).ext E44).keep Kc48) (((((Vy22.keep Kc24 nin0).ext E26).keep Kc30 (ninS (Nat.ne_of_lt (Nat.lt_of_lt_of_le (Vy22.keep Kc24 nin0).lt (Nat.le_of_eq g26.symm))) nin0)).ext E44).keep Kc48 (ninS (Nat.ne_of_lt (Nat.lt_of_lt_of_le (((Vy22.keep Kc24 nin0).ext E26).keep Kc30 (ninS (Nat.ne_of_lt (Nat.lt_of_lt_of_le (Vy22.keep Kc24 nin0).lt (Nat.le_of_eq g26.symm))) nin0)).lt (Nat.le_of_eq g44.symm))) nin0)) ((((Fv24.ext E26).keep Kc30 (ninS (Nat.ne_of_lt (Nat.lt_of_lt_of_le Ex24.lt (Nat.le_of_eq g26.symm))) nin0)).ext E44).keep Kc48 (ninS (Nat.ne_of_lt (Nat.lt_of_lt_of_le ((Ex24.ext E26).keep Kc30).lt (Nat.le_of_eq g44.symm))) nin0)) ((((Fc24.ext E26).keep Kc30 (ninS (Nat.ne_of_lt (Nat.lt_of_lt_of_le Ex24.lt (Nat.le_of_eq g26.symm))) nin0)).ext E44).keep Kc48 (ninS (Nat.ne_of_lt (Nat.lt_of_lt_of_le ((Ex24.ext E26).keep Kc30).lt (Nat.le_of_eq g44.symm))) nin0)) ((((Ex24.ext E26).keep Kc30).ext E44).keep Kc48) ((((Vy24.ext E26).keep Kc30 (ninS (Nat.ne_of_lt (Nat.lt_of_lt_of_le Vy24.lt (Nat.le_of_eq g26.symm))) nin0)).ext E44).keep Kc48 (ninS (Nat.ne_of_lt (Nat.lt_of_lt_of_le ((Vy24.ext E26).keep Kc30 (ninS (Nat.ne_of_lt (Nat.lt_of_lt_of_le Vy24.lt (Nat.le_of_eq g26.symm))) nin0)).lt (Nat.le_of_eq g44.symm))) nin0)) ne_x22_x24) hZ (hw _ (List.mem_of_getElem? (i := 57) rfl)) (hw _ (List.mem_of_getElem? (i := 36) rfl)) (by decide) (by decide)) q68a q68c (g := (mkF m 310 #[iv p0, iv p1, iv p2, iv p3, iv p4, iv p5, iv ra, iv rb, iv ib, iv cb, iv ca0, iv ca1, iv cb0, iv cb1, iv (0 : Int32), iv (0 : Int32), rv x22, rv x24, rv b26, iv (((p5.toUInt32 >>> ((5 : Int32) &&& 31).toUInt32).toInt32) &&& (3 : Int32)), rv b44, iv sd, iv ex] [(.ref b44), (.ref b26)])) rfl (by rw [hml]; rfl) (Steps.refl _) (argsL := [(.ref b44)]) (rest := []) (lenOf pd15 rfl) rfl (by show 2 * 0 + _ ≤ _; exact Nat.le_of_eq rfl) (hb hby at_310) (fun _ _ => ⟨rfl, rfl, (by decide : 8 + 0 ≤ _), (by decide : 22 + 0 ≤ _)⟩)
            dsimp only [Pt.U, Pt.locs, Pt.cells, Pt.slots] at X68 l68 y68 z68 st68 hQ68
            subst l68 y68 z68
            obtain ⟨rfl, N68q, hh68⟩ := hQ68
            have N68 := Fr.app N48 N68q
            have pre69 : ∀ t, Steps p.tables e below (T68.setTop (mkF m 315 #[iv p0, iv p1, iv p2, iv p3, iv p4, iv p5, iv ra, iv rb, iv ib, iv cb, iv ca0, iv ca1, iv cb0, iv cb1, iv (0 : Int32), iv (0 : Int32), rv x22, rv x24, rv b26, iv (((p5.toUInt32 >>> ((5 : Int32) &&& 31).toUInt32).toInt32) &&& (3 : Int32)), rv b44, iv sd, iv ex] [(.int ex), (.int (own_de22 (own_rs aK aP aS aR ra) p1 (own_rs aK aP aS aR rb) ib (ca0.toInt8.toInt32) (ca1.toInt8.toInt32) (cb0.toInt8.toInt32) (cb1.toInt8.toInt32)))])) t → Steps p.tables e below (s₁.setTop (entryFrame m #[(.int p0), (.int p1), (.int p2), (.int p3), (.int p4), (.int p5)] maxLocals)) t := by
              intro t kt
              refine pre67 _ ?_
              show Steps p.tables e below (T48.setTop (mkF m 310 #[iv p0, iv p1, iv p2, iv p3, iv p4, iv p5, iv ra, iv rb, iv ib, iv cb, iv ca0, iv ca1, iv cb0, iv cb1, iv (0 : Int32), iv (0 : Int32), rv x22, rv x24, rv b26, iv (((p5.toUInt32 >>> ((5 : Int32) &&& 31).toUInt32).toInt32) &&& (3 : Int32)), rv b44, iv sd, iv ex] [(.ref b44), (.ref b26)])) _
              refine st68.trans ?_
              show Steps p.tables e below (T68.setTop (mkF m 313 #[iv p0, iv p1, iv p2, iv p3, iv p4, iv p5, iv ra, iv rb, iv ib, iv cb, iv ca0, iv ca1, iv cb0, iv cb1, iv (0 : Int32), iv (0 : Int32), rv x22, rv x24, rv b26, iv (((p5.toUInt32 >>> ((5 : Int32) &&& 31).toUInt32).toInt32) &&& (3 : Int32)), rv b44, iv sd, iv ex] [(.int (own_de22 (own_rs aK aP aS aR ra) p1 (own_rs aK aP aS aR rb) ib (ca0.toInt8.toInt32) (ca1.toInt8.toInt32) (cb0.toInt8.toInt32) (cb1.toInt8.toInt32)))])) _
              refine XS.iload X68.here hx rfl (hb hby at_313) rfl ?_
              exact kt
            by_cases hc315 : (own_de22 (own_rs aK aP aS aR ra) p1 (own_rs aK aP aS aR rb) ib (ca0.toInt8.toInt32) (ca1.toInt8.toInt32) (cb0.toInt8.toInt32) (cb1.toInt8.toInt32)) = ex
            · have pre70 : ∀ t, Steps p.tables e below (T68.setTop (mkF m 322 #[iv p0, iv p1, iv p2, iv p3, iv p4, iv p5, iv ra, iv rb, iv ib, iv cb, iv ca0, iv ca1, iv cb0, iv cb1, iv (0 : Int32), iv (0 : Int32), rv x22, rv x24, rv b26, iv (((p5.toUInt32 >>> ((5 : Int32) &&& 31).toUInt32).toInt32) &&& (3 : Int32)), rv b44, iv sd, iv ex] [(.ref b26), (.ref b44)])) t → Steps p.tables e below (s₁.setTop (entryFrame m #[(.int p0), (.int p1), (.int p2), (.int p3), (.int p4), (.int p5)] maxLocals)) t := by
                intro t kt
                refine pre69 _ ?_
                show Steps p.tables e below (T68.setTop (mkF m 315 #[iv p0, iv p1, iv p2, iv p3, iv p4, iv p5, iv ra, iv rb, iv ib, iv cb, iv ca0, iv ca1, iv cb0, iv cb1, iv (0 : Int32), iv (0 : Int32), rv x22, rv x24, rv b26, iv (((p5.toUInt32 >>> ((5 : Int32) &&& 31).toUInt32).toInt32) &&& (3 : Int32)), rv b44, iv sd, iv ex] [(.int ex), (.int (own_de22 (own_rs aK aP aS aR ra) p1 (own_rs aK aP aS aR rb) ib (ca0.toInt8.toInt32) (ca1.toInt8.toInt32) (cb0.toInt8.toInt32) (cb1.toInt8.toInt32)))])) _
                refine XS.icmpNo X68.here hx rfl (hb hby at_315) rfl (teq hc315).2 ?_
                show Steps p.tables e below (T68.setTop (mkF m 318 #[iv p0, iv p1, iv p2, iv p3, iv p4, iv p5, iv ra, iv rb, iv ib, iv cb, iv ca0, iv ca1, iv cb0, iv cb1, iv (0 : Int32), iv (0 : Int32), rv x22, rv x24, rv b26, iv (((p5.toUInt32 >>> ((5 : Int32) &&& 31).toUInt32).toInt32) &&& (3 : Int32)), rv b44, iv sd, iv ex] [])) _
                refine XS.aload X68.here hx rfl (hb hby at_318) rfl rfl ?_
                show Steps p.tables e below (T68.setTop (mkF m 320 #[iv p0, iv p1, iv p2, iv p3, iv p4, iv p5, iv ra, iv rb, iv ib, iv cb, iv ca0, iv ca1, iv cb0, iv cb1, iv (0 : Int32), iv (0 : Int32), rv x22, rv x24, rv b26, iv (((p5.toUInt32 >>> ((5 : Int32) &&& 31).toUInt32).toInt32) &&& (3 : Int32)), rv b44, iv sd, iv ex] [(.ref b44)])) _
                refine XS.aload X68.here hx rfl (hb hby at_320) rfl rfl ?_
                exact kt
              obtain ⟨cq71, kq71, q71a, q71b, q71c⟩ := isOf hZ hh68 (A44.keep Kc48)
              obtain ⟨_, _, ⟨T71, L71, k71, n71⟩, -, X71, ⟨Lc71, hQ71, l71, y71, z71⟩, st71⟩ := X68.virtualBack hx (y := (⟨"com/example/fair_witness/fairwitness/verifier/DecodingFailure", "equals", "(Ljava/lang/Object;)Z"⟩ : MethodName)) (z := (⟨"com/example/fair_witness/fairwitness/verifier/DecodingFailure", "equals", "(Ljava/lang/Object;)Z"⟩ : MethodName)) hown (mvT hZ (hw _ (List.mem_of_getElem? (i := 53) rfl))) (mvT hZ (hw _ (List.mem_of_getElem? (i := 54) rfl))) (notFace_of_selects (args := #[]) (mvT hZ (hw _ (List.mem_of_getElem? (i := 56) rfl)))) (mvT hZ (hw _ (List.mem_of_getElem? (i := 56) rfl))) (mvT hZ (hw _ (List.mem_of_getElem? (i := 55) rfl))) (by decide) (backOf (W := 0) (rm10v22 l Z a0 hw [] b44 b26 (own_rs aK aP aS aR rb) ib x24 (own_rs aK aP aS aR ra) p1 x22 y24 y22 ky24 ky22 (cb0.toInt8.toInt32) (cb1.toInt8.toInt32) (ca0.toInt8.toInt32) (ca1.toInt8.toInt32) cs T48.heap n0 (Nat.le_trans Z0 K48.1) (O0.keep K48 all0) S_cs hcs F0_48 F1_48 F2_48 (A44.keep Kc48) ((F0_30.ext E44).keep Kc48 (ninS (Nat.ne_of_lt (Nat.lt_of_lt_of_le (A26.keep Kc30).lt (Nat.le_of_eq g44.symm))) nin0)) ((F1_30.ext E44).keep Kc48 (ninS (Nat.ne_of_lt (Nat.lt_of_lt_of_le (A26.keep Kc30).lt (Nat.le_of_eq g44.symm))) nin0)) ((F2_30.ext E44).keep Kc48 (ninS (Nat.ne_of_lt (Nat.lt_of_lt_of_le (A26.keep Kc30).lt (Nat.le_of_eq g44.symm))) nin0)) (((A26.keep Kc30).ext E44).keep Kc48) ((((Fv24.ext E26).keep Kc30 (ninS (Nat.ne_of_lt (Nat.lt_of_lt_of_le Ex24.lt (Nat.le_of_eq g26.symm))) nin0)).ext E44).keep Kc48 (ninS (Nat.ne_of_lt (Nat.lt_of_lt_of_le ((Ex24.ext E26).keep Kc30).lt (Nat.le_of_eq g44.symm))) nin0)) ((((Fc24.ext E26).keep Kc30 (ninS (Nat.ne_of_lt (Nat.lt_of_lt_of_le Ex24.lt (Nat.le_of_eq g26.symm))) nin0)).ext E44).keep Kc48 (ninS (Nat.ne_of_lt (Nat.lt_of_lt_of_le ((Ex24.ext E26).keep Kc30).lt (Nat.le_of_eq g44.symm))) nin0)) ((((Ex24.ext E26).keep Kc30).ext E44).keep Kc48) ((((Vy24.ext E26).keep Kc30 (ninS (Nat.ne_of_lt (Nat.lt_of_lt_of_le Vy24.lt (Nat.le_of_eq g26.symm))) nin0)).ext E44).keep Kc48 (ninS (Nat.ne_of_lt (Nat.lt_of_lt_of_le ((Vy24.ext E26).keep Kc30 (ninS (Nat.ne_of_lt (Nat.lt_of_lt_of_le Vy24.lt (Nat.le_of_eq g26.symm))) nin0)).lt (Nat.le_of_eq g44.symm))) nin0)) (((((Fv22.keep Kc24 nin0).ext E26).keep Kc30 (ninS (Nat.ne_of_lt (Nat.lt_of_lt_of_le (Ex22.keep Kc24).lt (Nat.le_of_eq g26.symm))) nin0)).ext E44).keep Kc48 (ninS (Nat.ne_of_lt (Nat.lt_of_lt_of_le (((Ex22.keep Kc24).ext E26).keep Kc30).lt (Nat.le_of_eq g44.symm))) nin0)) (((((Fc22.keep Kc24 nin0).ext E26).keep Kc30 (ninS (Nat.ne_of_lt (Nat.lt_of_lt_of_le (Ex22.keep Kc24).lt (Nat.le_of_eq g26.symm))) nin0)).ext E44).keep Kc48 (ninS (Nat.ne_of_lt (Nat.lt_of_lt_of_le (((Ex22.keep Kc24).ext E26).keep Kc30).lt (Nat.le_of_eq g44.symm))) nin0)) (((((Ex22.keep Kc24).ext E26).keep Kc30).ext E44).keep Kc48) (((((Vy22.keep Kc24 nin0).ext E26).keep Kc30 (ninS (Nat.ne_of_lt (Nat.lt_of_lt_of_le (Vy22.keep Kc24 nin0).lt (Nat.le_of_eq g26.symm))) nin0)).ext E44).keep Kc48 (ninS (Nat.ne_of_lt (Nat.lt_of_lt_of_le (((Vy22.keep Kc24 nin0).ext E26).keep Kc30 (ninS (Nat.ne_of_lt (Nat.lt_of_lt_of_le (Vy22.keep Kc24 nin0).lt (Nat.le_of_eq g26.symm))) nin0)).lt (Nat.le_of_eq g44.symm))) nin0)) (Ne.symm ne_x22_x24)) hZ (hw _ (List.mem_of_getElem? (i := 57) rfl)) (hw _ (List.mem_of_getElem? (i := 36) rfl)) (by decide) (by decide)) q71a q71c (g := (mkF m 322 #[iv p0, iv p1, iv p2, iv p3, iv p4, iv p5, iv ra, iv rb, iv ib, iv cb, iv ca0, iv ca1, iv cb0, iv cb1, iv (0 : Int32), iv (0 : Int32), rv x22, rv x24, rv b26, iv (((p5.toUInt32 >>> ((5 : Int32) &&& 31).toUInt32).toInt32) &&& (3 : Int32)), rv b44, iv sd, iv ex] [(.ref b26), (.ref b44)])) rfl (by rw [hml]; rfl) (Steps.refl _) (argsL := [(.ref b26)]) (rest := []) (lenOf pd15 rfl) rfl (by show 2 * 0 + _ ≤ _; exact Nat.le_of_eq rfl) (hb hby at_322) (fun _ _ => ⟨rfl, hh68, (by decide : 8 + 0 ≤ _), (by decide : 22 + 0 ≤ _)⟩)
              dsimp only [Pt.U, Pt.locs, Pt.cells, Pt.slots] at X71 l71 y71 z71 st71 hQ71
              subst l71 y71 z71
              obtain ⟨rfl, N71q, hh71⟩ := hQ71
              have N71 := Fr.app N68 N71q
              have pre72 : ∀ t, Steps p.tables e below (T71.setTop (mkF m 327 #[iv p0, iv p1, iv p2, iv p3, iv p4, iv p5, iv ra, iv rb, iv ib, iv cb, iv ca0, iv ca1, iv cb0, iv cb1, iv (0 : Int32), iv (0 : Int32), rv x22, rv x24, rv b26, iv (((p5.toUInt32 >>> ((5 : Int32) &&& 31).toUInt32).toInt32) &&& (3 : Int32)), rv b44, iv sd, iv ex] [(.int ex), (.int (own_de22 (own_rs aK aP aS aR rb) ib (own_rs aK aP aS aR ra) p1 (cb0.toInt8.toInt32) (cb1.toInt8.toInt32) (ca0.toInt8.toInt32) (ca1.toInt8.toInt32)))])) t → Steps p.tables e below (s₁.setTop (entryFrame m #[(.int p0), (.int p1), (.int p2), (.int p3), (.int p4), (.int p5)] maxLocals)) t := by
                intro t kt
                refine pre70 _ ?_
                show Steps p.tables e below (T68.setTop (mkF m 322 #[iv p0, iv p1, iv p2, iv p3, iv p4, iv p5, iv ra, iv rb, iv ib, iv cb, iv ca0, iv ca1, iv cb0, iv cb1, iv (0 : Int32), iv (0 : Int32), rv x22, rv x24, rv b26, iv (((p5.toUInt32 >>> ((5 : Int32) &&& 31).toUInt32).toInt32) &&& (3 : Int32)), rv b44, iv sd, iv ex] [(.ref b26), (.ref b44)])) _
                refine st71.trans ?_
                show Steps p.tables e below (T71.setTop (mkF m 325 #[iv p0, iv p1, iv p2, iv p3, iv p4, iv p5, iv ra, iv rb, iv ib, iv cb, iv ca0, iv ca1, iv cb0, iv cb1, iv (0 : Int32), iv (0 : Int32), rv x22, rv x24, rv b26, iv (((p5.toUInt32 >>> ((5 : Int32) &&& 31).toUInt32).toInt32) &&& (3 : Int32)), rv b44, iv sd, iv ex] [(.int (own_de22 (own_rs aK aP aS aR rb) ib (own_rs aK aP aS aR ra) p1 (cb0.toInt8.toInt32) (cb1.toInt8.toInt32) (ca0.toInt8.toInt32) (ca1.toInt8.toInt32)))])) _
                refine XS.iload X71.here hx rfl (hb hby at_325) rfl ?_
                exact kt
              by_cases hc327 : (own_de22 (own_rs aK aP aS aR rb) ib (own_rs aK aP aS aR ra) p1 (cb0.toInt8.toInt32) (cb1.toInt8.toInt32) (ca0.toInt8.toInt32) (ca1.toInt8.toInt32)) = ex
              · have pre73 : ∀ t, Steps p.tables e below (T71.setTop (mkF m 335 #[iv p0, iv p1, iv p2, iv p3, iv p4, iv p5, iv ra, iv rb, iv ib, iv cb, iv ca0, iv ca1, iv cb0, iv cb1, iv (0 : Int32), iv (0 : Int32), rv x22, rv x24, rv b26, iv (((p5.toUInt32 >>> ((5 : Int32) &&& 31).toUInt32).toInt32) &&& (3 : Int32)), rv b44, iv sd, iv ex] [(.int (1 : Int32))])) t → Steps p.tables e below (s₁.setTop (entryFrame m #[(.int p0), (.int p1), (.int p2), (.int p3), (.int p4), (.int p5)] maxLocals)) t := by
                  intro t kt
                  refine pre72 _ ?_
                  show Steps p.tables e below (T71.setTop (mkF m 327 #[iv p0, iv p1, iv p2, iv p3, iv p4, iv p5, iv ra, iv rb, iv ib, iv cb, iv ca0, iv ca1, iv cb0, iv cb1, iv (0 : Int32), iv (0 : Int32), rv x22, rv x24, rv b26, iv (((p5.toUInt32 >>> ((5 : Int32) &&& 31).toUInt32).toInt32) &&& (3 : Int32)), rv b44, iv sd, iv ex] [(.int ex), (.int (own_de22 (own_rs aK aP aS aR rb) ib (own_rs aK aP aS aR ra) p1 (cb0.toInt8.toInt32) (cb1.toInt8.toInt32) (ca0.toInt8.toInt32) (ca1.toInt8.toInt32)))])) _
                  refine XS.icmpNo X71.here hx rfl (hb hby at_327) rfl (teq hc327).2 ?_
                  show Steps p.tables e below (T71.setTop (mkF m 330 #[iv p0, iv p1, iv p2, iv p3, iv p4, iv p5, iv ra, iv rb, iv ib, iv cb, iv ca0, iv ca1, iv cb0, iv cb1, iv (0 : Int32), iv (0 : Int32), rv x22, rv x24, rv b26, iv (((p5.toUInt32 >>> ((5 : Int32) &&& 31).toUInt32).toInt32) &&& (3 : Int32)), rv b44, iv sd, iv ex] [])) _
                  refine XS.iconst X71.here hx rfl (hb hby at_330) ?_
                  show Steps p.tables e below (T71.setTop (mkF m 331 #[iv p0, iv p1, iv p2, iv p3, iv p4, iv p5, iv ra, iv rb, iv ib, iv cb, iv ca0, iv ca1, iv cb0, iv cb1, iv (0 : Int32), iv (0 : Int32), rv x22, rv x24, rv b26, iv (((p5.toUInt32 >>> ((5 : Int32) &&& 31).toUInt32).toInt32) &&& (3 : Int32)), rv b44, iv sd, iv ex] [(.int (1 : Int32))])) _
                  refine XS.goto X71.here hx rfl (pc0 := 331) (pc' := 335) rfl (hb hby at_331) (by decide) (by decide) ?_
                  exact kt
                obtain ⟨fs, hr, hrun, hended, hW, hsame⟩ := X71.leave (v := some (.int (1 : Int32))) (fun h => by rw [Bd.returns] at h; cases h)
                refine ⟨_, _, pre73 _ ?_, hrun, hended, _, _, rfl, ?_, ⟨_, rfl⟩, hW, hsame.mono (by decide) (by decide)⟩
                · show Steps p.tables e below (T71.setTop (mkF m 335 #[iv p0, iv p1, iv p2, iv p3, iv p4, iv p5, iv ra, iv rb, iv ib, iv cb, iv ca0, iv ca1, iv cb0, iv cb1, iv (0 : Int32), iv (0 : Int32), rv x22, rv x24, rv b26, iv (((p5.toUInt32 >>> ((5 : Int32) &&& 31).toUInt32).toInt32) &&& (3 : Int32)), rv b44, iv sd, iv ex] [(.int (1 : Int32))])) _
                  exact retN X71 hx (t := .boolean) Bd.returns (by simp) (hb hby at_335) hr
                · show Q0 Z p0 p1 p2 p3 p4 p5 aK aP aS aR cs h0 n0 _ T71.heap _
                  rw [hh71]
                  exact ⟨rfl, N71⟩
              · have pre74 : ∀ t, Steps p.tables e below (T71.setTop (mkF m 335 #[iv p0, iv p1, iv p2, iv p3, iv p4, iv p5, iv ra, iv rb, iv ib, iv cb, iv ca0, iv ca1, iv cb0, iv cb1, iv (0 : Int32), iv (0 : Int32), rv x22, rv x24, rv b26, iv (((p5.toUInt32 >>> ((5 : Int32) &&& 31).toUInt32).toInt32) &&& (3 : Int32)), rv b44, iv sd, iv ex] [(.int (0 : Int32))])) t → Steps p.tables e below (s₁.setTop (entryFrame m #[(.int p0), (.int p1), (.int p2), (.int p3), (.int p4), (.int p5)] maxLocals)) t := by
                  intro t kt
                  refine pre72 _ ?_
                  show Steps p.tables e below (T71.setTop (mkF m 327 #[iv p0, iv p1, iv p2, iv p3, iv p4, iv p5, iv ra, iv rb, iv ib, iv cb, iv ca0, iv ca1, iv cb0, iv cb1, iv (0 : Int32), iv (0 : Int32), rv x22, rv x24, rv b26, iv (((p5.toUInt32 >>> ((5 : Int32) &&& 31).toUInt32).toInt32) &&& (3 : Int32)), rv b44, iv sd, iv ex] [(.int ex), (.int (own_de22 (own_rs aK aP aS aR rb) ib (own_rs aK aP aS aR ra) p1 (cb0.toInt8.toInt32) (cb1.toInt8.toInt32) (ca0.toInt8.toInt32) (ca1.toInt8.toInt32)))])) _
                  refine XS.icmpYes X71.here hx rfl (pc0 := 327) (pc' := 334) rfl (hb hby at_327) rfl (feq hc327).2 (by decide) (by decide) ?_
                  show Steps p.tables e below (T71.setTop (mkF m 334 #[iv p0, iv p1, iv p2, iv p3, iv p4, iv p5, iv ra, iv rb, iv ib, iv cb, iv ca0, iv ca1, iv cb0, iv cb1, iv (0 : Int32), iv (0 : Int32), rv x22, rv x24, rv b26, iv (((p5.toUInt32 >>> ((5 : Int32) &&& 31).toUInt32).toInt32) &&& (3 : Int32)), rv b44, iv sd, iv ex] [])) _
                  refine XS.iconst X71.here hx rfl (hb hby at_334) ?_
                  exact kt
                exfalso
                exact hc327 (own_fin22 aK aP aS aR ra rb p1 ib ca0 ca1 cb0 cb1 sd ex (own_rinj aK aP aS aR hne01 hne02 hne03 hne12 hne13 hne23 ra rb (h_ra ▸ own_and3 _) (by rcases hrb with ⟨_, q⟩ | ⟨_, q⟩ <;> rw [q] <;> first | exact (h_ra ▸ own_and3 _) | exact own_and3 _)) (own_binj ca0 cb0 (h_ca0 ▸ own_ch _).2.2 (h_cb0 ▸ own_ch _).2.2) (own_binj ca1 cb1 (h_ca1 ▸ own_ch _).2.2 (h_cb1 ▸ own_ch _).2.2) hsd hex).2
            · have pre75 : ∀ t, Steps p.tables e below (T68.setTop (mkF m 335 #[iv p0, iv p1, iv p2, iv p3, iv p4, iv p5, iv ra, iv rb, iv ib, iv cb, iv ca0, iv ca1, iv cb0, iv cb1, iv (0 : Int32), iv (0 : Int32), rv x22, rv x24, rv b26, iv (((p5.toUInt32 >>> ((5 : Int32) &&& 31).toUInt32).toInt32) &&& (3 : Int32)), rv b44, iv sd, iv ex] [(.int (0 : Int32))])) t → Steps p.tables e below (s₁.setTop (entryFrame m #[(.int p0), (.int p1), (.int p2), (.int p3), (.int p4), (.int p5)] maxLocals)) t := by
                intro t kt
                refine pre69 _ ?_
                show Steps p.tables e below (T68.setTop (mkF m 315 #[iv p0, iv p1, iv p2, iv p3, iv p4, iv p5, iv ra, iv rb, iv ib, iv cb, iv ca0, iv ca1, iv cb0, iv cb1, iv (0 : Int32), iv (0 : Int32), rv x22, rv x24, rv b26, iv (((p5.toUInt32 >>> ((5 : Int32) &&& 31).toUInt32).toInt32) &&& (3 : Int32)), rv b44, iv sd, iv ex] [(.int ex), (.int (own_de22 (own_rs aK aP aS aR ra) p1 (own_rs aK aP aS aR rb) ib (ca0.toInt8.toInt32) (ca1.toInt8.toInt32) (cb0.toInt8.toInt32) (cb1.toInt8.toInt32)))])) _
                refine XS.icmpYes X68.here hx rfl (pc0 := 315) (pc' := 334) rfl (hb hby at_315) rfl (feq hc315).2 (by decide) (by decide) ?_
                show Steps p.tables e below (T68.setTop (mkF m 334 #[iv p0, iv p1, iv p2, iv p3, iv p4, iv p5, iv ra, iv rb, iv ib, iv cb, iv ca0, iv ca1, iv cb0, iv cb1, iv (0 : Int32), iv (0 : Int32), rv x22, rv x24, rv b26, iv (((p5.toUInt32 >>> ((5 : Int32) &&& 31).toUInt32).toInt32) &&& (3 : Int32)), rv b44, iv sd, iv ex] [])) _
                refine XS.iconst X68.here hx rfl (hb hby at_334) ?_
                exact kt
              exfalso
              exact hc315 (own_fin22 aK aP aS aR ra rb p1 ib ca0 ca1 cb0 cb1 sd ex (own_rinj aK aP aS aR hne01 hne02 hne03 hne12 hne13 hne23 ra rb (h_ra ▸ own_and3 _) (by rcases hrb with ⟨_, q⟩ | ⟨_, q⟩ <;> rw [q] <;> first | exact (h_ra ▸ own_and3 _) | exact own_and3 _)) (own_binj ca0 cb0 (h_ca0 ▸ own_ch _).2.2 (h_cb0 ▸ own_ch _).2.2) (own_binj ca1 cb1 (h_ca1 ▸ own_ch _).2.2 (h_cb1 ▸ own_ch _).2.2) hsd hex).1
    · have pre76 : ∀ t, Steps p.tables e below (s₁.setTop (mkF m 129 #[iv p0, iv p1, iv p2, iv p3, iv p4, iv p5, iv ra, iv rb, iv ib, iv cb, iv ca0, iv ca1, iv cb0, iv cb1, iv (0 : Int32), iv (1 : Int32), .unset, .unset, .unset, .unset, .unset, .unset, .unset] [(.int ca1), (.int ca0), (.int (0 : Int32))])) t → Steps p.tables e below (s₁.setTop (entryFrame m #[(.int p0), (.int p1), (.int p2), (.int p3), (.int p4), (.int p5)] maxLocals)) t := by
        intro t kt
        refine pre20 _ ?_
        show Steps p.tables e below (s₁.setTop (mkF m 113 #[iv p0, iv p1, iv p2, iv p3, iv p4, iv p5, iv ra, iv rb, iv ib, iv cb, iv ca0, iv ca1, iv cb0, iv cb1, iv (0 : Int32), .unset, .unset, .unset, .unset, .unset, .unset, .unset, .unset] [(.int (p5 &&& (16 : Int32)))])) _
        refine XS.ifNo X0.here hx rfl (hb hby at_113) rfl ((if0 _ _).trans (feq hc113).1) ?_
        show Steps p.tables e below (s₁.setTop (mkF m 116 #[iv p0, iv p1, iv p2, iv p3, iv p4, iv p5, iv ra, iv rb, iv ib, iv cb, iv ca0, iv ca1, iv cb0, iv cb1, iv (0 : Int32), .unset, .unset, .unset, .unset, .unset, .unset, .unset, .unset] [])) _
        refine XS.iconst X0.here hx rfl (hb hby at_116) ?_
        show Steps p.tables e below (s₁.setTop (mkF m 117 #[iv p0, iv p1, iv p2, iv p3, iv p4, iv p5, iv ra, iv rb, iv ib, iv cb, iv ca0, iv ca1, iv cb0, iv cb1, iv (0 : Int32), .unset, .unset, .unset, .unset, .unset, .unset, .unset, .unset] [(.int (1 : Int32))])) _
        refine XS.goto X0.here hx rfl (pc0 := 117) (pc' := 121) rfl (hb hby at_117) (by decide) (by decide) ?_
        show Steps p.tables e below (s₁.setTop (mkF m 121 #[iv p0, iv p1, iv p2, iv p3, iv p4, iv p5, iv ra, iv rb, iv ib, iv cb, iv ca0, iv ca1, iv cb0, iv cb1, iv (0 : Int32), .unset, .unset, .unset, .unset, .unset, .unset, .unset, .unset] [(.int (1 : Int32))])) _
        refine XS.istore X0.here hx rfl (hb hby at_121) rfl (l' := #[iv p0, iv p1, iv p2, iv p3, iv p4, iv p5, iv ra, iv rb, iv ib, iv cb, iv ca0, iv ca1, iv cb0, iv cb1, iv (0 : Int32), iv (1 : Int32), .unset, .unset, .unset, .unset, .unset, .unset, .unset]) rfl ?_
        show Steps p.tables e below (s₁.setTop (mkF m 123 #[iv p0, iv p1, iv p2, iv p3, iv p4, iv p5, iv ra, iv rb, iv ib, iv cb, iv ca0, iv ca1, iv cb0, iv cb1, iv (0 : Int32), iv (1 : Int32), .unset, .unset, .unset, .unset, .unset, .unset, .unset] [])) _
        refine XS.iload X0.here hx rfl (hb hby at_123) rfl ?_
        show Steps p.tables e below (s₁.setTop (mkF m 125 #[iv p0, iv p1, iv p2, iv p3, iv p4, iv p5, iv ra, iv rb, iv ib, iv cb, iv ca0, iv ca1, iv cb0, iv cb1, iv (0 : Int32), iv (1 : Int32), .unset, .unset, .unset, .unset, .unset, .unset, .unset] [(.int (0 : Int32))])) _
        refine XS.iload X0.here hx rfl (hb hby at_125) rfl ?_
        show Steps p.tables e below (s₁.setTop (mkF m 127 #[iv p0, iv p1, iv p2, iv p3, iv p4, iv p5, iv ra, iv rb, iv ib, iv cb, iv ca0, iv ca1, iv cb0, iv cb1, iv (0 : Int32), iv (1 : Int32), .unset, .unset, .unset, .unset, .unset, .unset, .unset] [(.int ca0), (.int (0 : Int32))])) _
        refine XS.iload X0.here hx rfl (hb hby at_127) rfl ?_
        exact kt
      obtain ⟨_, _, ⟨T77, L77, k77, n77⟩, -, X77, ⟨Lc77, hQ77, l77, y77, z77⟩, st77⟩ := Jvm.LawKit.callS X0 hx (y := (⟨"com/example/fair_witness/fairwitness/verifier/DecodingFailureEqualsPinLaw", "text", "(ZCC)Ljava/lang/String;"⟩ : MethodName)) hown (mvT hZ (hw _ (List.mem_of_getElem? (i := 0) rfl))) (mvT hZ (hw _ (List.mem_of_getElem? (i := 1) rfl))) (mvT hZ (hw _ (List.mem_of_getElem? (i := 2) rfl))) (mvT hZ (hw _ (List.mem_of_getElem? (i := 3) rfl))) (by decide) (backOf (W := 0) (rm1l l Z a0 hw [] ca0 ca1 cs h0 n0 (Nat.le_trans Z0 (Keep.refl h0 []).1) (O0.keep (Keep.refl h0 []) all0) S_cs hcs (h_ca0 ▸ own_ch _).1 (h_ca1 ▸ own_ch _).1 (h_ca0 ▸ own_ch _).2.1 (h_ca1 ▸ own_ch _).2.1) hZ (hw _ (List.mem_of_getElem? (i := 3) rfl)) (hw _ (List.mem_of_getElem? (i := 2) rfl)) (by decide) (by decide)) (g := (mkF m 129 #[iv p0, iv p1, iv p2, iv p3, iv p4, iv p5, iv ra, iv rb, iv ib, iv cb, iv ca0, iv ca1, iv cb0, iv cb1, iv (0 : Int32), iv (1 : Int32), .unset, .unset, .unset, .unset, .unset, .unset, .unset] [(.int ca1), (.int ca0), (.int (0 : Int32))])) rfl (by rw [hml]; rfl) (argsL := [(.int (0 : Int32)), (.int ca0), (.int ca1)]) (rest := []) (lenOf pd16 rfl) rfl (by show 2 * 0 + _ ≤ _; exact Nat.le_of_eq rfl) (hb hby at_129) (fun _ _ => ⟨rfl, e0, (by decide : 0 + 3 ≤ _), (by decide : 0 + 8 ≤ _)⟩)
      dsimp only [Pt.U, Pt.locs, Pt.cells, Pt.slots] at X77 l77 y77 z77 st77 hQ77
      subst l77 y77 z77
      obtain ⟨x77, y77, ky77, rfl, N77q, Kc77, hx77, hy77, Ex77, Fv77, Fc77, Vy77⟩ := hQ77
      have N77 := Fr.app N0 N77q
      have K77 : Keep h0 T77.heap [] := (Keep.refl h0 []).trans Kc77 all0
      have g_x77 : n0 ≤ x77 := Nat.le_trans (Nat.le_trans Z0 (Keep.refl h0 []).1) hx77
      have sz_x77 : h0.size ≤ x77 := Nat.le_trans (Keep.refl h0 []).1 hx77
      have g_y77 : n0 ≤ y77 := Nat.le_trans (Nat.le_trans Z0 (Keep.refl h0 []).1) hy77
      have sz_y77 : h0.size ≤ y77 := Nat.le_trans (Keep.refl h0 []).1 hy77
      have pre78 : ∀ t, Steps p.tables e below (T77.setTop (mkF m 140 #[iv p0, iv p1, iv p2, iv p3, iv p4, iv p5, iv ra, iv rb, iv ib, iv cb, iv ca0, iv ca1, iv cb0, iv cb1, iv (0 : Int32), iv (1 : Int32), rv x77, .unset, .unset, .unset, .unset, .unset, .unset] [(.int cb1), (.int cb0), (.int (1 : Int32))])) t → Steps p.tables e below (s₁.setTop (entryFrame m #[(.int p0), (.int p1), (.int p2), (.int p3), (.int p4), (.int p5)] maxLocals)) t := by
        intro t kt
        refine pre76 _ ?_
        show Steps p.tables e below (s₁.setTop (mkF m 129 #[iv p0, iv p1, iv p2, iv p3, iv p4, iv p5, iv ra, iv rb, iv ib, iv cb, iv ca0, iv ca1, iv cb0, iv cb1, iv (0 : Int32), iv (1 : Int32), .unset, .unset, .unset, .unset, .unset, .unset, .unset] [(.int ca1), (.int ca0), (.int (0 : Int32))])) _
        refine st77 _ ?_
        show Steps p.tables e below (T77.setTop (mkF m 132 #[iv p0, iv p1, iv p2, iv p3, iv p4, iv p5, iv ra, iv rb, iv ib, iv cb, iv ca0, iv ca1, iv cb0, iv cb1, iv (0 : Int32), iv (1 : Int32), .unset, .unset, .unset, .unset, .unset, .unset, .unset] [(.ref x77)])) _
        refine XS.astore X77.here hx rfl (hb hby at_132) rfl rfl (l' := #[iv p0, iv p1, iv p2, iv p3, iv p4, iv p5, iv ra, iv rb, iv ib, iv cb, iv ca0, iv ca1, iv cb0, iv cb1, iv (0 : Int32), iv (1 : Int32), rv x77, .unset, .unset, .unset, .unset, .unset, .unset]) rfl ?_
        show Steps p.tables e below (T77.setTop (mkF m 134 #[iv p0, iv p1, iv p2, iv p3, iv p4, iv p5, iv ra, iv rb, iv ib, iv cb, iv ca0, iv ca1, iv cb0, iv cb1, iv (0 : Int32), iv (1 : Int32), rv x77, .unset, .unset, .unset, .unset, .unset, .unset] [])) _
        refine XS.iload X77.here hx rfl (hb hby at_134) rfl ?_
        show Steps p.tables e below (T77.setTop (mkF m 136 #[iv p0, iv p1, iv p2, iv p3, iv p4, iv p5, iv ra, iv rb, iv ib, iv cb, iv ca0, iv ca1, iv cb0, iv cb1, iv (0 : Int32), iv (1 : Int32), rv x77, .unset, .unset, .unset, .unset, .unset, .unset] [(.int (1 : Int32))])) _
        refine XS.iload X77.here hx rfl (hb hby at_136) rfl ?_
        show Steps p.tables e below (T77.setTop (mkF m 138 #[iv p0, iv p1, iv p2, iv p3, iv p4, iv p5, iv ra, iv rb, iv ib, iv cb, iv ca0, iv ca1, iv cb0, iv cb1, iv (0 : Int32), iv (1 : Int32), rv x77, .unset, .unset, .unset, .unset, .unset, .unset] [(.int cb0), (.int (1 : Int32))])) _
        refine XS.iload X77.here hx rfl (hb hby at_138) rfl ?_
        exact kt
      obtain ⟨_, _, ⟨T79, L79, k79, n79⟩, -, X79, ⟨Lc79, hQ79, l79, y79, z79⟩, st79⟩ := Jvm.LawKit.callS X77 hx (y := (⟨"com/example/fair_witness/fairwitness/verifier/DecodingFailureEqualsPinLaw", "text", "(ZCC)Ljava/lang/String;"⟩ : MethodName)) hown (mvT hZ (hw _ (List.mem_of_getElem? (i := 0) rfl))) (mvT hZ (hw _ (List.mem_of_getElem? (i := 1) rfl))) (mvT hZ (hw _ (List.mem_of_getElem? (i := 2) rfl))) (mvT hZ (hw _ (List.mem_of_getElem? (i := 3) rfl))) (by decide) (backOf (W := 0) (rm1s l Z a0 hw [] cb0 cb1 cs T77.heap n0 (Nat.le_trans Z0 K77.1) (O0.keep K77 all0) S_cs hcs (h_cb0 ▸ own_ch _).1) hZ (hw _ (List.mem_of_getElem? (i := 3) rfl)) (hw _ (List.mem_of_getElem? (i := 2) rfl)) (by decide) (by decide)) (g := (mkF m 140 #[iv p0, iv p1, iv p2, iv p3, iv p4, iv p5, iv ra, iv rb, iv ib, iv cb, iv ca0, iv ca1, iv cb0, iv cb1, iv (0 : Int32), iv (1 : Int32), rv x77, .unset, .unset, .unset, .unset, .unset, .unset] [(.int cb1), (.int cb0), (.int (1 : Int32))])) rfl (by rw [hml]; rfl) (argsL := [(.int (1 : Int32)), (.int cb0), (.int cb1)]) (rest := []) (lenOf pd16 rfl) rfl (by show 2 * 0 + _ ≤ _; exact Nat.le_of_eq rfl) (hb hby at_140) (fun _ _ => ⟨rfl, rfl, (by decide : 3 + 2 ≤ _), (by decide : 8 + 5 ≤ _)⟩)
      dsimp only [Pt.U, Pt.locs, Pt.cells, Pt.slots] at X79 l79 y79 z79 st79 hQ79
      subst l79 y79 z79
      obtain ⟨x79, y79, ky79, rfl, N79q, Kc79, hx79, hy79, Ex79, Fv79, Fc79, Vy79⟩ := hQ79
      have N79 := Fr.app N77 N79q
      have K79 : Keep h0 T79.heap [] := K77.trans Kc79 all0
      have g_x79 : n0 ≤ x79 := Nat.le_trans (Nat.le_trans Z0 K77.1) hx79
      have sz_x79 : h0.size ≤ x79 := Nat.le_trans K77.1 hx79
      have g_y79 : n0 ≤ y79 := Nat.le_trans (Nat.le_trans Z0 K77.1) hy79
      have sz_y79 : h0.size ≤ y79 := Nat.le_trans K77.1 hy79
      have ne_x77_x79 : x77 ≠ x79 := Nat.ne_of_lt (Nat.lt_of_lt_of_le Ex77.lt hx79)
      have pre80 : ∀ t, Steps p.tables e below (T79.setTop (mkF m 145 #[iv p0, iv p1, iv p2, iv p3, iv p4, iv p5, iv ra, iv rb, iv ib, iv cb, iv ca0, iv ca1, iv cb0, iv cb1, iv (0 : Int32), iv (1 : Int32), rv x77, rv x79, .unset, .unset, .unset, .unset, .unset] [])) t → Steps p.tables e below (s₁.setTop (entryFrame m #[(.int p0), (.int p1), (.int p2), (.int p3), (.int p4), (.int p5)] maxLocals)) t := by
        intro t kt
        refine pre78 _ ?_
        show Steps p.tables e below (T77.setTop (mkF m 140 #[iv p0, iv p1, iv p2, iv p3, iv p4, iv p5, iv ra, iv rb, iv ib, iv cb, iv ca0, iv ca1, iv cb0, iv cb1, iv (0 : Int32), iv (1 : Int32), rv x77, .unset, .unset, .unset, .unset, .unset, .unset] [(.int cb1), (.int cb0), (.int (1 : Int32))])) _
        refine st79 _ ?_
        show Steps p.tables e below (T79.setTop (mkF m 143 #[iv p0, iv p1, iv p2, iv p3, iv p4, iv p5, iv ra, iv rb, iv ib, iv cb, iv ca0, iv ca1, iv cb0, iv cb1, iv (0 : Int32), iv (1 : Int32), rv x77, .unset, .unset, .unset, .unset, .unset, .unset] [(.ref x79)])) _
        refine XS.astore X79.here hx rfl (hb hby at_143) rfl rfl (l' := #[iv p0, iv p1, iv p2, iv p3, iv p4, iv p5, iv ra, iv rb, iv ib, iv cb, iv ca0, iv ca1, iv cb0, iv cb1, iv (0 : Int32), iv (1 : Int32), rv x77, rv x79, .unset, .unset, .unset, .unset, .unset]) rfl ?_
        exact kt
      obtain ⟨T81, h81, X81, e81, E81, A81, D81, -, st81⟩ := newO X79 hx hZ hown (hw _ (List.mem_of_getElem? (i := 34) rfl)) (hw _ (List.mem_of_getElem? (i := 35) rfl)) (hw _ (List.mem_of_getElem? (i := 36) rfl)) rfl (g := (mkF m 145 #[iv p0, iv p1, iv p2, iv p3, iv p4, iv p5, iv ra, iv rb, iv ib, iv cb, iv ca0, iv ca1, iv cb0, iv cb1, iv (0 : Int32), iv (1 : Int32), rv x77, rv x79, .unset, .unset, .unset, .unset, .unset] [])) rfl (hb hby at_145) (by decide) (by decide)
      obtain ⟨b81, g81⟩ : ∃ z, z = T79.heap.size := ⟨_, rfl⟩
      rw [← g81] at A81 D81 st81
      have g_b81 : n0 ≤ b81 := Nat.le_trans (Nat.le_trans Z0 K79.1) (Nat.le_of_eq g81.symm)
      have sz_b81 : h0.size ≤ b81 := Nat.le_trans K79.1 (Nat.le_of_eq g81.symm)
      have F_reason_b81 : Fld Z h81 b81 "com/example/fair_witness/fairwitness/verifier/DecodingFailure" "reason" "Lcom/example/fair_witness/fairwitness/verifier/Reason;" .null := D81 (Or.inr (hw _ (List.mem_of_getElem? (i := 48) rfl))) (ty := (.object "com/example/fair_witness/fairwitness/verifier/Reason")) (by decide)
      have F_certificateIndex_b81 : Fld Z h81 b81 "com/example/fair_witness/fairwitness/verifier/DecodingFailure" "certificateIndex" "I" (.int (0 : Int32)) := D81 (Or.inr (hw _ (List.mem_of_getElem? (i := 50) rfl))) (ty := .int) (by decide)
      have F_detail_b81 : Fld Z h81 b81 "com/example/fair_witness/fairwitness/verifier/DecodingFailure" "detail" "Ljava/lang/String;" .null := D81 (Or.inr (hw _ (List.mem_of_getElem? (i := 52) rfl))) (ty := (.object "java/lang/String")) (by decide)
      have K81 : Keep h0 h81 [] := K79.ext E81
      have pre82 : ∀ t, Steps p.tables e below (T81.setTop (mkF m 151 #[iv p0, iv p1, iv p2, iv p3, iv p4, iv p5, iv ra, iv rb, iv ib, iv cb, iv ca0, iv ca1, iv cb0, iv cb1, iv (0 : Int32), iv (1 : Int32), rv x77, rv x79, .unset, .unset, .unset, .unset, .unset] [(.int ra), (.ref b81), (.ref b81)])) t → Steps p.tables e below (s₁.setTop (entryFrame m #[(.int p0), (.int p1), (.int p2), (.int p3), (.int p4), (.int p5)] maxLocals)) t := by
        intro t kt
        refine pre80 _ ?_
        show Steps p.tables e below (T79.setTop (mkF m 145 #[iv p0, iv p1, iv p2, iv p3, iv p4, iv p5, iv ra, iv rb, iv ib, iv cb, iv ca0, iv ca1, iv cb0, iv cb1, iv (0 : Int32), iv (1 : Int32), rv x77, rv x79, .unset, .unset, .unset, .unset, .unset] [])) _
        refine st81 _ ?_
        show Steps p.tables e below (T81.setTop (mkF m 148 #[iv p0, iv p1, iv p2, iv p3, iv p4, iv p5, iv ra, iv rb, iv ib, iv cb, iv ca0, iv ca1, iv cb0, iv cb1, iv (0 : Int32), iv (1 : Int32), rv x77, rv x79, .unset, .unset, .unset, .unset, .unset] [(.ref b81)])) _
        refine XS.dup X81.here hx rfl (hb hby at_148) rfl rfl ?_
        show Steps p.tables e below (T81.setTop (mkF m 149 #[iv p0, iv p1, iv p2, iv p3, iv p4, iv p5, iv ra, iv rb, iv ib, iv cb, iv ca0, iv ca1, iv cb0, iv cb1, iv (0 : Int32), iv (1 : Int32), rv x77, rv x79, .unset, .unset, .unset, .unset, .unset] [(.ref b81), (.ref b81)])) _
        refine XS.iload X81.here hx rfl (hb hby at_149) rfl ?_
        exact kt
      obtain ⟨_, _, ⟨T83, L83, k83, n83⟩, -, X83, ⟨Lc83, hQ83, l83, y83, z83⟩, st83⟩ := Jvm.LawKit.callS X81 hx (y := (⟨"com/example/fair_witness/fairwitness/verifier/DecodingFailureEqualsPinLaw", "reason", "(I)Lcom/example/fair_witness/fairwitness/verifier/Reason;"⟩ : MethodName)) hown (mvT hZ (hw _ (List.mem_of_getElem? (i := 37) rfl))) (mvT hZ (hw _ (List.mem_of_getElem? (i := 38) rfl))) (mvT hZ (hw _ (List.mem_of_getElem? (i := 2) rfl))) (mvT hZ (hw _ (List.mem_of_getElem? (i := 39) rfl))) (by decide) (backOf (W := 2) (rm8 l Z a0 hw [] ra aK aP aS aR h81 n0 (Nat.le_trans Z0 K81.1) (O0.keep K81 all0) S_KEY_DESCRIPTION_INVALID S_PROVISIONING_INFO_INVALID S_SIGNATURE_INVALID S_ROOT_NOT_TRUSTED) hZ (hw _ (List.mem_of_getElem? (i := 39) rfl)) (hw _ (List.mem_of_getElem? (i := 2) rfl)) (by decide) (by decide)) (g := (mkF m 151 #[iv p0, iv p1, iv p2, iv p3, iv p4, iv p5, iv ra, iv rb, iv ib, iv cb, iv ca0, iv ca1, iv cb0, iv cb1, iv (0 : Int32), iv (1 : Int32), rv x77, rv x79, .unset, .unset, .unset, .unset, .unset] [(.int ra), (.ref b81), (.ref b81)])) rfl (by rw [hml]; rfl) (argsL := [(.int ra)]) (rest := [(.ref b81), (.ref b81)]) (lenOf pd17 rfl) rfl (by show 2 * 0 + _ ≤ _; exact Nat.le_of_eq rfl) (hb hby at_151) (fun _ _ => ⟨rfl, e81, (by decide : 6 + 0 ≤ _), (by decide : 16 + 0 ≤ _)⟩)
      dsimp only [Pt.U, Pt.locs, Pt.cells, Pt.slots] at X83 l83 y83 z83 st83 hQ83
      subst l83 y83 z83
      obtain ⟨rfl, N83q, hh83⟩ := hQ83
      have N83 := Fr.app N79 N83q
      have pre84 : ∀ t, Steps p.tables e below (T83.setTop (mkF m 157 #[iv p0, iv p1, iv p2, iv p3, iv p4, iv p5, iv ra, iv rb, iv ib, iv cb, iv ca0, iv ca1, iv cb0, iv cb1, iv (0 : Int32), iv (1 : Int32), rv x77, rv x79, .unset, .unset, .unset, .unset, .unset] [(.ref x77), (.int p1), (.ref (own_rs aK aP aS aR ra)), (.ref b81), (.ref b81)])) t → Steps p.tables e below (s₁.setTop (entryFrame m #[(.int p0), (.int p1), (.int p2), (.int p3), (.int p4), (.int p5)] maxLocals)) t := by
        intro t kt
        refine pre82 _ ?_
        show Steps p.tables e below (T81.setTop (mkF m 151 #[iv p0, iv p1, iv p2, iv p3, iv p4, iv p5, iv ra, iv rb, iv ib, iv cb, iv ca0, iv ca1, iv cb0, iv cb1, iv (0 : Int32), iv (1 : Int32), rv x77, rv x79, .unset, .unset, .unset, .unset, .unset] [(.int ra), (.ref b81), (.ref b81)])) _
        refine st83 _ ?_
        show Steps p.tables e below (T83.setTop (mkF m 154 #[iv p0, iv p1, iv p2, iv p3, iv p4, iv p5, iv ra, iv rb, iv ib, iv cb, iv ca0, iv ca1, iv cb0, iv cb1, iv (0 : Int32), iv (1 : Int32), rv x77, rv x79, .unset, .unset, .unset, .unset, .unset] [(.ref (own_rs aK aP aS aR ra)), (.ref b81), (.ref b81)])) _
        refine XS.iloadN X83.here hx rfl (hb hby at_154) rfl ?_
        show Steps p.tables e below (T83.setTop (mkF m 155 #[iv p0, iv p1, iv p2, iv p3, iv p4, iv p5, iv ra, iv rb, iv ib, iv cb, iv ca0, iv ca1, iv cb0, iv cb1, iv (0 : Int32), iv (1 : Int32), rv x77, rv x79, .unset, .unset, .unset, .unset, .unset] [(.int p1), (.ref (own_rs aK aP aS aR ra)), (.ref b81), (.ref b81)])) _
        refine XS.aload X83.here hx rfl (hb hby at_155) rfl rfl ?_
        exact kt
      obtain ⟨_, _, ⟨T85, L85, k85, n85⟩, -, X85, ⟨Lc85, hQ85, l85, y85, z85⟩, st85⟩ := X83.specialBack hx (y := (⟨"com/example/fair_witness/fairwitness/verifier/DecodingFailure", "<init>", "(Lcom/example/fair_witness/fairwitness/verifier/Reason;ILjava/lang/String;)V"⟩ : MethodName)) rfl hown (mvT hZ (hw _ (List.mem_of_getElem? (i := 43) rfl))) (mvT hZ (hw _ (List.mem_of_getElem? (i := 44) rfl))) (mvT hZ (hw _ (List.mem_of_getElem? (i := 45) rfl))) (by decide) (backOf (W := 1) (rm9 l Z a0 hw [] b81 (own_rs aK aP aS aR ra) p1 x77 h81 n0 (Nat.le_trans Z0 K81.1) F_reason_b81 F_certificateIndex_b81 F_detail_b81 A81 g_b81) hZ (hw _ (List.mem_of_getElem? (i := 45) rfl)) (hw _ (List.mem_of_getElem? (i := 36) rfl)) (by decide) (by decide)) (g := (mkF m 157 #[iv p0, iv p1, iv p2, iv p3, iv p4, iv p5, iv ra, iv rb, iv ib, iv cb, iv ca0, iv ca1, iv cb0, iv cb1, iv (0 : Int32), iv (1 : Int32), rv x77, rv x79, .unset, .unset, .unset, .unset, .unset] [(.ref x77), (.int p1), (.ref (own_rs aK aP aS aR ra)), (.ref b81), (.ref b81)])) rfl (by rw [hml]; rfl) (Steps.refl _) (a := b81) (argsL := [(.ref (own_rs aK aP aS aR ra)), (.int p1), (.ref x77)]) (rest := [(.ref b81)]) (lenOf pd18 rfl) rfl (by show 2 * 0 + _ ≤ _; exact Nat.le_of_eq rfl) (hb hby at_157) (fun _ _ => ⟨rfl, hh83, (by decide : 6 + 0 ≤ _), (by decide : 16 + 0 ≤ _)⟩)
      dsimp only [Pt.U, Pt.locs, Pt.cells, Pt.slots] at X85 l85 y85 z85 st85 hQ85
      subst l85 y85 z85
      obtain ⟨rfl, N85q, Kc85, F0_85, F1_85, F2_85⟩ := hQ85
      have N85 := Fr.app N83 N85q
      have K85 : Keep h0 T85.heap [] := K81.trans Kc85 (allS (Or.inr sz_b81) all0)
      have pre86 : ∀ t, Steps p.tables e below (T85.setTop (mkF m 172 #[iv p0, iv p1, iv p2, iv p3, iv p4, iv p5, iv ra, iv rb, iv ib, iv cb, iv ca0, iv ca1, iv cb0, iv cb1, iv (0 : Int32), iv (1 : Int32), rv x77, rv x79, rv b81, iv (((p5.toUInt32 >>> ((5 : Int32) &&& 31).toUInt32).toInt32) &&& (3 : Int32)), .unset, .unset, .unset] [(.int (((p5.toUInt32 >>> ((5 : Int32) &&& 31).toUInt32).toInt32) &&& (3 : Int32)))])) t → Steps p.tables e below (s₁.setTop (entryFrame m #[(.int p0), (.int p1), (.int p2), (.int p3), (.int p4), (.int p5)] maxLocals)) t := by
        intro t kt
        refine pre84 _ ?_
        show Steps p.tables e below (T83.setTop (mkF m 157 #[iv p0, iv p1, iv p2, iv p3, iv p4, iv p5, iv ra, iv rb, iv ib, iv cb, iv ca0, iv ca1, iv cb0, iv cb1, iv (0 : Int32), iv (1 : Int32), rv x77, rv x79, .unset, .unset, .unset, .unset, .unset] [(.ref x77), (.int p1), (.ref (own_rs aK aP aS aR ra)), (.ref b81), (.ref b81)])) _
        refine st85.trans ?_
        show Steps p.tables e below (T85.setTop (mkF m 160 #[iv p0, iv p1, iv p2, iv p3, iv p4, iv p5, iv ra, iv rb, iv ib, iv cb, iv ca0, iv ca1, iv cb0, iv cb1, iv (0 : Int32), iv (1 : Int32), rv x77, rv x79, .unset, .unset, .unset, .unset, .unset] [(.ref b81)])) _
        refine XS.astore X85.here hx rfl (hb hby at_160) rfl rfl (l' := #[iv p0, iv p1, iv p2, iv p3, iv p4, iv p5, iv ra, iv rb, iv ib, iv cb, iv ca0, iv ca1, iv cb0, iv cb1, iv (0 : Int32), iv (1 : Int32), rv x77, rv x79, rv b81, .unset, .unset, .unset, .unset]) rfl ?_
        show Steps p.tables e below (T85.setTop (mkF m 162 #[iv p0, iv p1, iv p2, iv p3, iv p4, iv p5, iv ra, iv rb, iv ib, iv cb, iv ca0, iv ca1, iv cb0, iv cb1, iv (0 : Int32), iv (1 : Int32), rv x77, rv x79, rv b81, .unset, .unset, .unset, .unset] [])) _
        refine XS.iload X85.here hx rfl (hb hby at_162) rfl ?_
        show Steps p.tables e below (T85.setTop (mkF m 164 #[iv p0, iv p1, iv p2, iv p3, iv p4, iv p5, iv ra, iv rb, iv ib, iv cb, iv ca0, iv ca1, iv cb0, iv cb1, iv (0 : Int32), iv (1 : Int32), rv x77, rv x79, rv b81, .unset, .unset, .unset, .unset] [(.int p5)])) _
        refine XS.iconst X85.here hx rfl (hb hby at_164) ?_
        show Steps p.tables e below (T85.setTop (mkF m 165 #[iv p0, iv p1, iv p2, iv p3, iv p4, iv p5, iv ra, iv rb, iv ib, iv cb, iv ca0, iv ca1, iv cb0, iv cb1, iv (0 : Int32), iv (1 : Int32), rv x77, rv x79, rv b81, .unset, .unset, .unset, .unset] [(.int (5 : Int32)), (.int p5)])) _
        refine XS.iushr X85.here hx rfl (hb hby at_165) rfl ?_
        show Steps p.tables e below (T85.setTop (mkF m 166 #[iv p0, iv p1, iv p2, iv p3, iv p4, iv p5, iv ra, iv rb, iv ib, iv cb, iv ca0, iv ca1, iv cb0, iv cb1, iv (0 : Int32), iv (1 : Int32), rv x77, rv x79, rv b81, .unset, .unset, .unset, .unset] [(.int ((p5.toUInt32 >>> ((5 : Int32) &&& 31).toUInt32).toInt32))])) _
        refine XS.iconst X85.here hx rfl (hb hby at_166) ?_
        show Steps p.tables e below (T85.setTop (mkF m 167 #[iv p0, iv p1, iv p2, iv p3, iv p4, iv p5, iv ra, iv rb, iv ib, iv cb, iv ca0, iv ca1, iv cb0, iv cb1, iv (0 : Int32), iv (1 : Int32), rv x77, rv x79, rv b81, .unset, .unset, .unset, .unset] [(.int (3 : Int32)), (.int ((p5.toUInt32 >>> ((5 : Int32) &&& 31).toUInt32).toInt32))])) _
        refine XS.iand X85.here hx rfl (hb hby at_167) rfl ?_
        show Steps p.tables e below (T85.setTop (mkF m 168 #[iv p0, iv p1, iv p2, iv p3, iv p4, iv p5, iv ra, iv rb, iv ib, iv cb, iv ca0, iv ca1, iv cb0, iv cb1, iv (0 : Int32), iv (1 : Int32), rv x77, rv x79, rv b81, .unset, .unset, .unset, .unset] [(.int (((p5.toUInt32 >>> ((5 : Int32) &&& 31).toUInt32).toInt32) &&& (3 : Int32)))])) _
        refine XS.istore X85.here hx rfl (hb hby at_168) rfl (l' := #[iv p0, iv p1, iv p2, iv p3, iv p4, iv p5, iv ra, iv rb, iv ib, iv cb, iv ca0, iv ca1, iv cb0, iv cb1, iv (0 : Int32), iv (1 : Int32), rv x77, rv x79, rv b81, iv (((p5.toUInt32 >>> ((5 : Int32) &&& 31).toUInt32).toInt32) &&& (3 : Int32)), .unset, .unset, .unset]) rfl ?_
        show Steps p.tables e below (T85.setTop (mkF m 170 #[iv p0, iv p1, iv p2, iv p3, iv p4, iv p5, iv ra, iv rb, iv ib, iv cb, iv ca0, iv ca1, iv cb0, iv cb1, iv (0 : Int32), iv (1 : Int32), rv x77, rv x79, rv b81, iv (((p5.toUInt32 >>> ((5 : Int32) &&& 31).toUInt32).toInt32) &&& (3 : Int32)), .unset, .unset, .unset] [])) _
        refine XS.iload X85.here hx rfl (hb hby at_170) rfl ?_
        exact kt
      by_cases hc172 : (((p5.toUInt32 >>> ((5 : Int32) &&& 31).toUInt32).toInt32) &&& (3 : Int32)) = (0 : Int32)
      · have pre87 : ∀ t, Steps p.tables e below (T85.setTop (mkF m 178 #[iv p0, iv p1, iv p2, iv p3, iv p4, iv p5, iv ra, iv rb, iv ib, iv cb, iv ca0, iv ca1, iv cb0, iv cb1, iv (0 : Int32), iv (1 : Int32), rv x77, rv x79, rv b81, iv (((p5.toUInt32 >>> ((5 : Int32) &&& 31).toUInt32).toInt32) &&& (3 : Int32)), .unset, .unset, .unset] [.null, (.ref b81)])) t → Steps p.tables e below (s₁.setTop (entryFrame m #[(.int p0), (.int p1), (.int p2), (.int p3), (.int p4), (.int p5)] maxLocals)) t := by
          intro t kt
          refine pre86 _ ?_
          show Steps p.tables e below (T85.setTop (mkF m 172 #[iv p0, iv p1, iv p2, iv p3, iv p4, iv p5, iv ra, iv rb, iv ib, iv cb, iv ca0, iv ca1, iv cb0, iv cb1, iv (0 : Int32), iv (1 : Int32), rv x77, rv x79, rv b81, iv (((p5.toUInt32 >>> ((5 : Int32) &&& 31).toUInt32).toInt32) &&& (3 : Int32)), .unset, .unset, .unset] [(.int (((p5.toUInt32 >>> ((5 : Int32) &&& 31).toUInt32).toInt32) &&& (3 : Int32)))])) _
          refine XS.ifNo X85.here hx rfl (hb hby at_172) rfl ((if0 _ _).trans (teq hc172).2) ?_
          show Steps p.tables e below (T85.setTop (mkF m 175 #[iv p0, iv p1, iv p2, iv p3, iv p4, iv p5, iv ra, iv rb, iv ib, iv cb, iv ca0, iv ca1, iv cb0, iv cb1, iv (0 : Int32), iv (1 : Int32), rv x77, rv x79, rv b81, iv (((p5.toUInt32 >>> ((5 : Int32) &&& 31).toUInt32).toInt32) &&& (3 : Int32)), .unset, .unset, .unset] [])) _
          refine XS.aload X85.here hx rfl (hb hby at_175) rfl rfl ?_
          show Steps p.tables e below (T85.setTop (mkF m 177 #[iv p0, iv p1, iv p2, iv p3, iv p4, iv p5, iv ra, iv rb, iv ib, iv cb, iv ca0, iv ca1, iv cb0, iv cb1, iv (0 : Int32), iv (1 : Int32), rv x77, rv x79, rv b81, iv (((p5.toUInt32 >>> ((5 : Int32) &&& 31).toUInt32).toInt32) &&& (3 : Int32)), .unset, .unset, .unset] [(.ref b81)])) _
          refine XS.aconstNull X85.here hx rfl (hb hby at_177) ?_
          exact kt
        obtain ⟨cq88, kq88, q88a, q88b, q88c⟩ := isOf hZ rfl (A81.keep Kc85)
        obtain ⟨_, _, ⟨T88, L88, k88, n88⟩, -, X88, ⟨Lc88, hQ88, l88, y88, z88⟩, st88⟩ := X85.virtualBack hx (y := (⟨"com/example/fair_witness/fairwitness/verifier/DecodingFailure", "equals", "(Ljava/lang/Object;)Z"⟩ : MethodName)) (z := (⟨"com/example/fair_witness/fairwitness/verifier/DecodingFailure", "equals", "(Ljava/lang/Object;)Z"⟩ : MethodName)) hown (mvT hZ (hw _ (List.mem_of_getElem? (i := 53) rfl))) (mvT hZ (hw _ (List.mem_of_getElem? (i := 54) rfl))) (notFace_of_selects (args := #[]) (mvT hZ (hw _ (List.mem_of_getElem? (i := 56) rfl)))) (mvT hZ (hw _ (List.mem_of_getElem? (i := 56) rfl))) (mvT hZ (hw _ (List.mem_of_getElem? (i := 55) rfl))) (by decide) (backOf (W := 0) (rm10null l Z a0 hw [] b81 T85.heap n0 (Nat.le_trans Z0 K85.1)) hZ (hw _ (List.mem_of_getElem? (i := 57) rfl)) (hw _ (List.mem_of_getElem? (i := 36) rfl)) (by decide) (by decide)) q88a q88c (g := (mkF m 178 #[iv p0, iv p1, iv p2, iv p3, iv p4, iv p5, iv ra, iv rb, iv ib, iv cb, iv ca0, iv ca1, iv cb0, iv cb1, iv (0 : Int32), iv (1 : Int32), rv x77, rv x79, rv b81, iv (((p5.toUInt32 >>> ((5 : Int32) &&& 31).toUInt32).toInt32) &&& (3 : Int32)), .unset, .unset, .unset] [.null, (.ref b81)])) rfl (by rw [hml]; rfl) (Steps.refl _) (argsL := [.null]) (rest := []) (lenOf pd15 rfl) rfl (by show 2 * 0 + _ ≤ _; exact Nat.le_of_eq rfl) (hb hby at_178) (fun _ _ => ⟨rfl, rfl, (by decide : 6 + 0 ≤ _), (by decide : 16 + 0 ≤ _)⟩)
        dsimp only [Pt.U, Pt.locs, Pt.cells, Pt.slots] at X88 l88 y88 z88 st88 hQ88
        subst l88 y88 z88
        obtain ⟨rfl, N88q, hh88⟩ := hQ88
        have N88 := Fr.app N85 N88q
        have pre89 : ∀ t, Steps p.tables e below (T88.setTop (mkF m 189 #[iv p0, iv p1, iv p2, iv p3, iv p4, iv p5, iv ra, iv rb, iv ib, iv cb, iv ca0, iv ca1, iv cb0, iv cb1, iv (0 : Int32), iv (1 : Int32), rv x77, rv x79, rv b81, iv (((p5.toUInt32 >>> ((5 : Int32) &&& 31).toUInt32).toInt32) &&& (3 : Int32)), .unset, .unset, .unset] [(.int (1 : Int32))])) t → Steps p.tables e below (s₁.setTop (entryFrame m #[(.int p0), (.int p1), (.int p2), (.int p3), (.int p4), (.int p5)] maxLocals)) t := by
          intro t kt
          refine pre87 _ ?_
          show Steps p.tables e below (T85.setTop (mkF m 178 #[iv p0, iv p1, iv p2, iv p3, iv p4, iv p5, iv ra, iv rb, iv ib, iv cb, iv ca0, iv ca1, iv cb0, iv cb1, iv (0 : Int32), iv (1 : Int32), rv x77, rv x79, rv b81, iv (((p5.toUInt32 >>> ((5 : Int32) &&& 31).toUInt32).toInt32) &&& (3 : Int32)), .unset, .unset, .unset] [.null, (.ref b81)])) _
          refine st88.trans ?_
          show Steps p.tables e below (T88.setTop (mkF m 181 #[iv p0, iv p1, iv p2, iv p3, iv p4, iv p5, iv ra, iv rb, iv ib, iv cb, iv ca0, iv ca1, iv cb0, iv cb1, iv (0 : Int32), iv (1 : Int32), rv x77, rv x79, rv b81, iv (((p5.toUInt32 >>> ((5 : Int32) &&& 31).toUInt32).toInt32) &&& (3 : Int32)), .unset, .unset, .unset] [(.int (0 : Int32))])) _
          refine XS.ifNo X88.here hx rfl (hb hby at_181) rfl ((if0 _ _).trans (teq (by decide)).2) ?_
          show Steps p.tables e below (T88.setTop (mkF m 184 #[iv p0, iv p1, iv p2, iv p3, iv p4, iv p5, iv ra, iv rb, iv ib, iv cb, iv ca0, iv ca1, iv cb0, iv cb1, iv (0 : Int32), iv (1 : Int32), rv x77, rv x79, rv b81, iv (((p5.toUInt32 >>> ((5 : Int32) &&& 31).toUInt32).toInt32) &&& (3 : Int32)), .unset, .unset, .unset] [])) _
          refine XS.iconst X88.here hx rfl (hb hby at_184) ?_
          show Steps p.tables e below (T88.setTop (mkF m 185 #[iv p0, iv p1, iv p2, iv p3, iv p4, iv p5, iv ra, iv rb, iv ib, iv cb, iv ca0, iv ca1, iv cb0, iv cb1, iv (0 : Int32), iv (1 : Int32), rv x77, rv x79, rv b81, iv (((p5.toUInt32 >>> ((5 : Int32) &&& 31).toUInt32).toInt32) &&& (3 : Int32)), .unset, .unset, .unset] [(.int (1 : Int32))])) _
          refine XS.goto X88.here hx rfl (pc0 := 185) (pc' := 189) rfl (hb hby at_185) (by decide) (by decide) ?_
          exact kt
        obtain ⟨fs, hr, hrun, hended, hW, hsame⟩ := X88.leave (v := some (.int (1 : Int32))) (fun h => by rw [Bd.returns] at h; cases h)
        refine ⟨_, _, pre89 _ ?_, hrun, hended, _, _, rfl, ?_, ⟨_, rfl⟩, hW, hsame.mono (by decide) (by decide)⟩
        · show Steps p.tables e below (T88.setTop (mkF m 189 #[iv p0, iv p1, iv p2, iv p3, iv p4, iv p5, iv ra, iv rb, iv ib, iv cb, iv ca0, iv ca1, iv cb0, iv cb1, iv (0 : Int32), iv (1 : Int32), rv x77, rv x79, rv b81, iv (((p5.toUInt32 >>> ((5 : Int32) &&& 31).toUInt32).toInt32) &&& (3 : Int32)), .unset, .unset, .unset] [(.int (1 : Int32))])) _
          exact retN X88 hx (t := .boolean) Bd.returns (by simp) (hb hby at_189) hr
        · show Q0 Z p0 p1 p2 p3 p4 p5 aK aP aS aR cs h0 n0 _ T88.heap _
          rw [hh88]
          exact ⟨rfl, N88⟩
      · have pre90 : ∀ t, Steps p.tables e below (T85.setTop (mkF m 193 #[iv p0, iv p1, iv p2, iv p3, iv p4, iv p5, iv ra, iv rb, iv ib, iv cb, iv ca0, iv ca1, iv cb0, iv cb1, iv (0 : Int32), iv (1 : Int32), rv x77, rv x79, rv b81, iv (((p5.toUInt32 >>> ((5 : Int32) &&& 31).toUInt32).toInt32) &&& (3 : Int32)), .unset, .unset, .unset] [(.int (1 : Int32)), (.int (((p5.toUInt32 >>> ((5 : Int32) &&& 31).toUInt32).toInt32) &&& (3 : Int32)))])) t → Steps p.tables e below (s₁.setTop (entryFrame m #[(.int p0), (.int p1), (.int p2), (.int p3), (.int p4), (.int p5)] maxLocals)) t := by
          intro t kt
          refine pre86 _ ?_
          show Steps p.tables e below (T85.setTop (mkF m 172 #[iv p0, iv p1, iv p2, iv p3, iv p4, iv p5, iv ra, iv rb, iv ib, iv cb, iv ca0, iv ca1, iv cb0, iv cb1, iv (0 : Int32), iv (1 : Int32), rv x77, rv x79, rv b81, iv (((p5.toUInt32 >>> ((5 : Int32) &&& 31).toUInt32).toInt32) &&& (3 : Int32)), .unset, .unset, .unset] [(.int (((p5.toUInt32 >>> ((5 : Int32) &&& 31).toUInt32).toInt32) &&& (3 : Int32)))])) _
          refine XS.ifYes X85.here hx rfl (pc0 := 172) (pc' := 190) rfl (hb hby at_172) rfl ((if0 _ _).trans (feq hc172).2) (by decide) (by decide) ?_
          show Steps p.tables e below (T85.setTop (mkF m 190 #[iv p0, iv p1, iv p2, iv p3, iv p4, iv p5, iv ra, iv rb, iv ib, iv cb, iv ca0, iv ca1, iv cb0, iv cb1, iv (0 : Int32), iv (1 : Int32), rv x77, rv x79, rv b81, iv (((p5.toUInt32 >>> ((5 : Int32) &&& 31).toUInt32).toInt32) &&& (3 : Int32)), .unset, .unset, .unset] [])) _
          refine XS.iload X85.here hx rfl (hb hby at_190) rfl ?_
          show Steps p.tables e below (T85.setTop (mkF m 192 #[iv p0, iv p1, iv p2, iv p3, iv p4, iv p5, iv ra, iv rb, iv ib, iv cb, iv ca0, iv ca1, iv cb0, iv cb1, iv (0 : Int32), iv (1 : Int32), rv x77, rv x79, rv b81, iv (((p5.toUInt32 >>> ((5 : Int32) &&& 31).toUInt32).toInt32) &&& (3 : Int32)), .unset, .unset, .unset] [(.int (((p5.toUInt32 >>> ((5 : Int32) &&& 31).toUInt32).toInt32) &&& (3 : Int32)))])) _
          refine XS.iconst X85.here hx rfl (hb hby at_192) ?_
          exact kt
        by_cases hc193 : (((p5.toUInt32 >>> ((5 : Int32) &&& 31).toUInt32).toInt32) &&& (3 : Int32)) = (1 : Int32)
        · have pre91 : ∀ t, Steps p.tables e below (T85.setTop (mkF m 204 #[iv p0, iv p1, iv p2, iv p3, iv p4, iv p5, iv ra, iv rb, iv ib, iv cb, iv ca0, iv ca1, iv cb0, iv cb1, iv (0 : Int32), iv (1 : Int32), rv x77, rv x79, rv b81, iv (((p5.toUInt32 >>> ((5 : Int32) &&& 31).toUInt32).toInt32) &&& (3 : Int32)), rv x77, .unset, .unset] [(.ref x77), (.ref b81)])) t → Steps p.tables e below (s₁.setTop (entryFrame m #[(.int p0), (.int p1), (.int p2), (.int p3), (.int p4), (.int p5)] maxLocals)) t := by
            intro t kt
            refine pre90 _ ?_
            show Steps p.tables e below (T85.setTop (mkF m 193 #[iv p0, iv p1, iv p2, iv p3, iv p4, iv p5, iv ra, iv rb, iv ib, iv cb, iv ca0, iv ca1, iv cb0, iv cb1, iv (0 : Int32), iv (1 : Int32), rv x77, rv x79, rv b81, iv (((p5.toUInt32 >>> ((5 : Int32) &&& 31).toUInt32).toInt32) &&& (3 : Int32)), .unset, .unset, .unset] [(.int (1 : Int32)), (.int (((p5.toUInt32 >>> ((5 : Int32) &&& 31).toUInt32).toInt32) &&& (3 : Int32)))])) _
            refine XS.icmpNo X85.here hx rfl (hb hby at_193) rfl (teq hc193).2 ?_
            show Steps p.tables e below (T85.setTop (mkF m 196 #[iv p0, iv p1, iv p2, iv p3, iv p4, iv p5, iv ra, iv rb, iv ib, iv cb, iv ca0, iv ca1, iv cb0, iv cb1, iv (0 : Int32), iv (1 : Int32), rv x77, rv x79, rv b81, iv (((p5.toUInt32 >>> ((5 : Int32) &&& 31).toUInt32).toInt32) &&& (3 : Int32)), .unset, .unset, .unset] [])) _
            refine XS.aload X85.here hx rfl (hb hby at_196) rfl rfl ?_
            show Steps p.tables e below (T85.setTop (mkF m 198 #[iv p0, iv p1, iv p2, iv p3, iv p4, iv p5, iv ra, iv rb, iv ib, iv cb, iv ca0, iv ca1, iv cb0, iv cb1, iv (0 : Int32), iv (1 : Int32), rv x77, rv x79, rv b81, iv (((p5.toUInt32 >>> ((5 : Int32) &&& 31).toUInt32).toInt32) &&& (3 : Int32)), .unset, .unset, .unset] [(.ref x77)])) _
            refine XS.astore X85.here hx rfl (hb hby at_198) rfl rfl (l' := #[iv p0, iv p1, iv p2, iv p3, iv p4, iv p5, iv ra, iv rb, iv ib, iv cb, iv ca0, iv ca1, iv cb0, iv cb1, iv (0 : Int32), iv (1 : Int32), rv x77, rv x79, rv b81, iv (((p5.toUInt32 >>> ((5 : Int32) &&& 31).toUInt32).toInt32) &&& (3 : Int32)), rv x77, .unset, .unset]) rfl ?_
            show Steps p.tables e below (T85.setTop (mkF m 200 #[iv p0, iv p1, iv p2, iv p3, iv p4, iv p5, iv ra, iv rb, iv ib, iv cb, iv ca0, iv ca1, iv cb0, iv cb1, iv (0 : Int32), iv (1 : Int32), rv x77, rv x79, rv b81, iv (((p5.toUInt32 >>> ((5 : Int32) &&& 31).toUInt32).toInt32) &&& (3 : Int32)), rv x77, .unset, .unset] [])) _
            refine XS.aload X85.here hx rfl (hb hby at_200) rfl rfl ?_
            show Steps p.tables e below (T85.setTop (mkF m 202 #[iv p0, iv p1, iv p2, iv p3, iv p4, iv p5, iv ra, iv rb, iv ib, iv cb, iv ca0, iv ca1, iv cb0, iv cb1, iv (0 : Int32), iv (1 : Int32), rv x77, rv x79, rv b81, iv (((p5.toUInt32 >>> ((5 : Int32) &&& 31).toUInt32).toInt32) &&& (3 : Int32)), rv x77, .unset, .unset] [(.ref b81)])) _
            refine XS.aload X85.here hx rfl (hb hby at_202) rfl rfl ?_
            exact kt
          obtain ⟨cq92, kq92, q92a, q92b, q92c⟩ := isOf hZ rfl (A81.keep Kc85)
          obtain ⟨_, _, ⟨T92, L92, k92, n92⟩, -, X92, ⟨Lc92, hQ92, l92, y92, z92⟩, st92⟩ := X85.virtualBack hx (y := (⟨"com/example/fair_witness/fairwitness/verifier/DecodingFailure", "equals", "(Ljava/lang/Object;)Z"⟩ : MethodName)) (z := (⟨"com/example/fair_witness/fairwitness/verifier/DecodingFailure", "equals", "(Ljava/lang/Object;)Z"⟩ : MethodName)) hown (mvT hZ (hw _ (List.mem_of_getElem? (i := 53) rfl))) (mvT hZ (hw _ (List.mem_of_getElem? (i := 54) rfl))) (notFace_of_selects (args := #[]) (mvT hZ (hw _ (List.mem_of_getElem? (i := 56) rfl)))) (mvT hZ (hw _ (List.mem_of_getElem? (i := 56) rfl))) (mvT hZ (hw _ (List.mem_of_getElem? (i := 55) rfl))) (by decide) (backOf (W := 0) (rm10str l Z a0 hw [] b81 x77 T85.heap n0 (Nat.le_trans Z0 K85.1) (((Ex77.keep Kc79).ext E81).keep Kc85)) hZ (hw _ (List.mem_of_getElem? (i := 57) rfl)) (hw _ (List.mem_of_getElem? (i := 36) rfl)) (by decide) (by decide)) q92a q92c (g := (mkF m 204 #[iv p0, iv p1, iv p2, iv p3, iv p4, iv p5, iv ra, iv rb, iv ib, iv cb, iv ca0, iv ca1, iv cb0, iv cb1, iv (0 : Int32), iv (1 : Int32), rv x77, rv x79, rv b81, iv (((p5.toUInt32 >>> ((5 : Int32) &&& 31).toUInt32).toInt32) &&& (3 : Int32)), rv x77, .unset, .unset] [(.ref x77), (.ref b81)])) rfl (by rw [hml]; rfl) (Steps.refl _) (argsL := [(.ref x77)]) (rest := []) (lenOf pd15 rfl) rfl (by show 2 * 0 + _ ≤ _; exact Nat.le_of_eq rfl) (hb hby at_204) (fun _ _ => ⟨rfl, rfl, (by decide : 6 + 0 ≤ _), (by decide : 16 + 0 ≤ _)⟩)
          dsimp only [Pt.U, Pt.locs, Pt.cells, Pt.slots] at X92 l92 y92 z92 st92 hQ92
          subst l92 y92 z92
          obtain ⟨rfl, N92q, hh92⟩ := hQ92
          have N92 := Fr.app N85 N92q
          have pre93 : ∀ t, Steps p.tables e below (T92.setTop (mkF m 215 #[iv p0, iv p1, iv p2, iv p3, iv p4, iv p5, iv ra, iv rb, iv ib, iv cb, iv ca0, iv ca1, iv cb0, iv cb1, iv (0 : Int32), iv (1 : Int32), rv x77, rv x79, rv b81, iv (((p5.toUInt32 >>> ((5 : Int32) &&& 31).toUInt32).toInt32) &&& (3 : Int32)), rv x77, .unset, .unset] [(.int (1 : Int32))])) t → Steps p.tables e below (s₁.setTop (entryFrame m #[(.int p0), (.int p1), (.int p2), (.int p3), (.int p4), (.int p5)] maxLocals)) t := by
            intro t kt
            refine pre91 _ ?_
            show Steps p.tables e below (T85.setTop (mkF m 204 #[iv p0, iv p1, iv p2, iv p3, iv p4, iv p5, iv ra, iv rb, iv ib, iv cb, iv ca0, iv ca1, iv cb0, iv cb1, iv (0 : Int32), iv (1 : Int32), rv x77, rv x79, rv b81, iv (((p5.toUInt32 >>> ((5 : Int32) &&& 31).toUInt32).toInt32) &&& (3 : Int32)), rv x77, .unset, .unset] [(.ref x77), (.ref b81)])) _
            refine st92.trans ?_
            show Steps p.tables e below (T92.setTop (mkF m 207 #[iv p0, iv p1, iv p2, iv p3, iv p4, iv p5, iv ra, iv rb, iv ib, iv cb, iv ca0, iv ca1, iv cb0, iv cb1, iv (0 : Int32), iv (1 : Int32), rv x77, rv x79, rv b81, iv (((p5.toUInt32 >>> ((5 : Int32) &&& 31).toUInt32).toInt32) &&& (3 : Int32)), rv x77, .unset, .unset] [(.int (0 : Int32))])) _
            refine XS.ifNo X92.here hx rfl (hb hby at_207) rfl ((if0 _ _).trans (teq (by decide)).2) ?_
            show Steps p.tables e below (T92.setTop (mkF m 210 #[iv p0, iv p1, iv p2, iv p3, iv p4, iv p5, iv ra, iv rb, iv ib, iv cb, iv ca0, iv ca1, iv cb0, iv cb1, iv (0 : Int32), iv (1 : Int32), rv x77, rv x79, rv b81, iv (((p5.toUInt32 >>> ((5 : Int32) &&& 31).toUInt32).toInt32) &&& (3 : Int32)), rv x77, .unset, .unset] [])) _
            refine XS.iconst X92.here hx rfl (hb hby at_210) ?_
            show Steps p.tables e below (T92.setTop (mkF m 211 #[iv p0, iv p1, iv p2, iv p3, iv p4, iv p5, iv ra, iv rb, iv ib, iv cb, iv ca0, iv ca1, iv cb0, iv cb1, iv (0 : Int32), iv (1 : Int32), rv x77, rv x79, rv b81, iv (((p5.toUInt32 >>> ((5 : Int32) &&& 31).toUInt32).toInt32) &&& (3 : Int32)), rv x77, .unset, .unset] [(.int (1 : Int32))])) _
            refine XS.goto X92.here hx rfl (pc0 := 211) (pc' := 215) rfl (hb hby at_211) (by decide) (by decide) ?_
            exact kt
          obtain ⟨fs, hr, hrun, hended, hW, hsame⟩ := X92.leave (v := some (.int (1 : Int32))) (fun h => by rw [Bd.returns] at h; cases h)
          refine ⟨_, _, pre93 _ ?_, hrun, hended, _, _, rfl, ?_, ⟨_, rfl⟩, hW, hsame.mono (by decide) (by decide)⟩
          · show Steps p.tables e below (T92.setTop (mkF m 215 #[iv p0, iv p1, iv p2, iv p3, iv p4, iv p5, iv ra, iv rb, iv ib, iv cb, iv ca0, iv ca1, iv cb0, iv cb1, iv (0 : Int32), iv (1 : Int32), rv x77, rv x79, rv b81, iv (((p5.toUInt32 >>> ((5 : Int32) &&& 31).toUInt32).toInt32) &&& (3 : Int32)), rv x77, .unset, .unset] [(.int (1 : Int32))])) _
            exact retN X92 hx (t := .boolean) Bd.returns (by simp) (hb hby at_215) hr
          · show Q0 Z p0 p1 p2 p3 p4 p5 aK aP aS aR cs h0 n0 _ T92.heap _
            rw [hh92]
            exact ⟨rfl, N92⟩
        · have pre94 : ∀ t, Steps p.tables e below (T85.setTop (mkF m 219 #[iv p0, iv p1, iv p2, iv p3, iv p4, iv p5, iv ra, iv rb, iv ib, iv cb, iv ca0, iv ca1, iv cb0, iv cb1, iv (0 : Int32), iv (1 : Int32), rv x77, rv x79, rv b81, iv (((p5.toUInt32 >>> ((5 : Int32) &&& 31).toUInt32).toInt32) &&& (3 : Int32)), .unset, .unset, .unset] [(.int (2 : Int32)), (.int (((p5.toUInt32 >>> ((5 : Int32) &&& 31).toUInt32).toInt32) &&& (3 : Int32)))])) t → Steps p.tables e below (s₁.setTop (entryFrame m #[(.int p0), (.int p1), (.int p2), (.int p3), (.int p4), (.int p5)] maxLocals)) t := by
            intro t kt
            refine pre90 _ ?_
            show Steps p.tables e below (T85.setTop (mkF m 193 #[iv p0, iv p1, iv p2, iv p3, iv p4, iv p5, iv ra, iv rb, iv ib, iv cb, iv ca0, iv ca1, iv cb0, iv cb1, iv (0 : Int32), iv (1 : Int32), rv x77, rv x79, rv b81, iv (((p5.toUInt32 >>> ((5 : Int32) &&& 31).toUInt32).toInt32) &&& (3 : Int32)), .unset, .unset, .unset] [(.int (1 : Int32)), (.int (((p5.toUInt32 >>> ((5 : Int32) &&& 31).toUInt32).toInt32) &&& (3 : Int32)))])) _
            refine XS.icmpYes X85.here hx rfl (pc0 := 193) (pc' := 216) rfl (hb hby at_193) rfl (feq hc193).2 (by decide) (by decide) ?_
            show Steps p.tables e below (T85.setTop (mkF m 216 #[iv p0, iv p1, iv p2, iv p3, iv p4, iv p5, iv ra, iv rb, iv ib, iv cb, iv ca0, iv ca1, iv cb0, iv cb1, iv (0 : Int32), iv (1 : Int32), rv x77, rv x79, rv b81, iv (((p5.toUInt32 >>> ((5 : Int32) &&& 31).toUInt32).toInt32) &&& (3 : Int32)), .unset, .unset, .unset] [])) _
            refine XS.iload X85.here hx rfl (hb hby at_216) rfl ?_
            show Steps p.tables e below (T85.setTop (mkF m 218 #[iv p0, iv p1, iv p2, iv p3, iv p4, iv p5, iv ra, iv rb, iv ib, iv cb, iv ca0, iv ca1, iv cb0, iv cb1, iv (0 : Int32), iv (1 : Int32), rv x77, rv x79, rv b81, iv (((p5.toUInt32 >>> ((5 : Int32) &&& 31).toUInt32).toInt32) &&& (3 : Int32)), .unset, .unset, .unset] [(.int (((p5.toUInt32 >>> ((5 : Int32) &&& 31).toUInt32).toInt32) &&& (3 : Int32)))])) _
            refine XS.iconst X85.here hx rfl (hb hby at_218) ?_
            exact kt
          by_cases hc219 : (((p5.toUInt32 >>> ((5 : Int32) &&& 31).toUInt32).toInt32) &&& (3 : Int32)) = (2 : Int32)
          · have pre95 : ∀ t, Steps p.tables e below (T85.setTop (mkF m 226 #[iv p0, iv p1, iv p2, iv p3, iv p4, iv p5, iv ra, iv rb, iv ib, iv cb, iv ca0, iv ca1, iv cb0, iv cb1, iv (0 : Int32), iv (1 : Int32), rv x77, rv x79, rv b81, iv (((p5.toUInt32 >>> ((5 : Int32) &&& 31).toUInt32).toInt32) &&& (3 : Int32)), .unset, .unset, .unset] [(.ref b81), (.ref b81)])) t → Steps p.tables e below (s₁.setTop (entryFrame m #[(.int p0), (.int p1), (.int p2), (.int p3), (.int p4), (.int p5)] maxLocals)) t := by
              intro t kt
              refine pre94 _ ?_
              show Steps p.tables e below (T85.setTop (mkF m 219 #[iv p0, iv p1, iv p2, iv p3, iv p4, iv p5, iv ra, iv rb, iv ib, iv cb, iv ca0, iv ca1, iv cb0, iv cb1, iv (0 : Int32), iv (1 : Int32), rv x77, rv x79, rv b81, iv (((p5.toUInt32 >>> ((5 : Int32) &&& 31).toUInt32).toInt32) &&& (3 : Int32)), .unset, .unset, .unset] [(.int (2 : Int32)), (.int (((p5.toUInt32 >>> ((5 : Int32) &&& 31).toUInt32).toInt32) &&& (3 : Int32)))])) _
              refine XS.icmpNo X85.here hx rfl (hb hby at_219) rfl (teq hc219).2 ?_
              show Steps p.tables e below (T85.setTop (mkF m 222 #[iv p0, iv p1, iv p2, iv p3, iv p4, iv p5, iv ra, iv rb, iv ib, iv cb, iv ca0, iv ca1, iv cb0, iv cb1, iv (0 : Int32), iv (1 : Int32), rv x77, rv x79, rv b81, iv (((p5.toUInt32 >>> ((5 : Int32) &&& 31).toUInt32).toInt32) &&& (3 : Int32)), .unset, .unset, .unset] [])) _
              refine XS.aload X85.here hx rfl (hb hby at_222) rfl rfl ?_
              show Steps p.tables e below (T85.setTop (mkF m 224 #[iv p0, iv p1, iv p2, iv p3, iv p4, iv p5, iv ra, iv rb, iv ib, iv cb, iv ca0, iv ca1, iv cb0, iv cb1, iv (0 : Int32), iv (1 : Int32), rv x77, rv x79, rv b81, iv (((p5.toUInt32 >>> ((5 : Int32) &&& 31).toUInt32).toInt32) &&& (3 : Int32)), .unset, .unset, .unset] [(.ref b81)])) _
              refine XS.aload X85.here hx rfl (hb hby at_224) rfl rfl ?_
              exact kt
            obtain ⟨cq96, kq96, q96a, q96b, q96c⟩ := isOf hZ rfl (A81.keep Kc85)
            obtain ⟨_, _, ⟨T96, L96, k96, n96⟩, -, X96, ⟨Lc96, hQ96, l96, y96, z96⟩, st96⟩ := X85.virtualBack hx (y := (⟨"com/example/fair_witness/fairwitness/verifier/DecodingFailure", "equals", "(Ljava/lang/Object;)Z"⟩ : MethodName)) (z := (⟨"com/example/fair_witness/fairwitness/verifier/DecodingFailure", "equals", "(Ljava/lang/Object;)Z"⟩ : MethodName)) hown (mvT hZ (hw _ (List.mem_of_getElem? (i := 53) rfl))) (mvT hZ (hw _ (List.mem_of_getElem? (i := 54) rfl))) (notFace_of_selects (args := #[]) (mvT hZ (hw _ (List.mem_of_getElem? (i := 56) rfl)))) (mvT hZ (hw _ (List.mem_of_getElem? (i := 56) rfl))) (mvT hZ (hw _ (List.mem_of_getElem? (i := 55) rfl))) (by decide) (backOf (W := 0) (rm10same l Z a0 hw [] b81 (own_rs aK aP aS aR ra) p1 x77 T85.heap n0 (Nat.le_trans Z0 K85.1) F0_85 F1_85 F2_85 (A81.keep Kc85) (((Ex77.keep Kc79).ext E81).keep Kc85)) hZ (hw _ (List.mem_of_getElem? (i := 57) rfl)) (hw _ (List.mem_of_getElem? (i := 36) rfl)) (by decide) (by decide)) q96a q96c (g := (mkF m 226 #[iv p0, iv p1, iv p2, iv p3, iv p4, iv p5, iv ra, iv rb, iv ib, iv cb, iv ca0, iv ca1, iv cb0, iv cb1, iv (0 : Int32), iv (1 : Int32), rv x77, rv x79, rv b81, iv (((p5.toUInt32 >>> ((5 : Int32) &&& 31).toUInt32).toInt32) &&& (3 : Int32)), .unset, .unset, .unset] [(.ref b81), (.ref b81)])) rfl (by rw [hml]; rfl) (Steps.refl _) (argsL := [(.ref b81)]) (rest := []) (lenOf pd15 rfl) rfl (by show 2 * 0 + _ ≤ _; exact Nat.le_of_eq rfl) (hb hby at_226) (fun _ _ => ⟨rfl, rfl, (by decide : 6 + 0 ≤ _), (by decide : 16 + 0 ≤ _)⟩)
            dsimp only [Pt.U, Pt.locs, Pt.cells, Pt.slots] at X96 l96 y96 z96 st96 hQ96
            subst l96 y96 z96
            obtain ⟨rfl, N96q, hh96⟩ := hQ96
            have N96 := Fr.app N85 N96q
            have pre97 : ∀ t, Steps p.tables e below (T96.setTop (mkF m 229 #[iv p0, iv p1, iv p2, iv p3, iv p4, iv p5, iv ra, iv rb, iv ib, iv cb, iv ca0, iv ca1, iv cb0, iv cb1, iv (0 : Int32), iv (1 : Int32), rv x77, rv x79, rv b81, iv (((p5.toUInt32 >>> ((5 : Int32) &&& 31).toUInt32).toInt32) &&& (3 : Int32)), .unset, .unset, .unset] [(.int (1 : Int32))])) t → Steps p.tables e below (s₁.setTop (entryFrame m #[(.int p0), (.int p1), (.int p2), (.int p3), (.int p4), (.int p5)] maxLocals)) t := by
              intro t kt
              refine pre95 _ ?_
              show Steps p.tables e below (T85.setTop (mkF m 226 #[iv p0, iv p1, iv p2, iv p3, iv p4, iv p5, iv ra, iv rb, iv ib, iv cb, iv ca0, iv ca1, iv cb0, iv cb1, iv (0 : Int32), iv (1 : Int32), rv x77, rv x79, rv b81, iv (((p5.toUInt32 >>> ((5 : Int32) &&& 31).toUInt32).toInt32) &&& (3 : Int32)), .unset, .unset, .unset] [(.ref b81), (.ref b81)])) _
              refine st96.trans ?_
              exact kt
            obtain ⟨fs, hr, hrun, hended, hW, hsame⟩ := X96.leave (v := some (.int (1 : Int32))) (fun h => by rw [Bd.returns] at h; cases h)
            refine ⟨_, _, pre97 _ ?_, hrun, hended, _, _, rfl, ?_, ⟨_, rfl⟩, hW, hsame.mono (by decide) (by decide)⟩
            · show Steps p.tables e below (T96.setTop (mkF m 229 #[iv p0, iv p1, iv p2, iv p3, iv p4, iv p5, iv ra, iv rb, iv ib, iv cb, iv ca0, iv ca1, iv cb0, iv cb1, iv (0 : Int32), iv (1 : Int32), rv x77, rv x79, rv b81, iv (((p5.toUInt32 >>> ((5 : Int32) &&& 31).toUInt32).toInt32) &&& (3 : Int32)), .unset, .unset, .unset] [(.int (1 : Int32))])) _
              exact retN X96 hx (t := .boolean) Bd.returns (by simp) (hb hby at_229) hr
            · show Q0 Z p0 p1 p2 p3 p4 p5 aK aP aS aR cs h0 n0 _ T96.heap _
              rw [hh96]
              exact ⟨rfl, N96⟩
          · have pre98 : ∀ t, Steps p.tables e below (T85.setTop (mkF m 230 #[iv p0, iv p1, iv p2, iv p3, iv p4, iv p5, iv ra, iv rb, iv ib, iv cb, iv ca0, iv ca1, iv cb0, iv cb1, iv (0 : Int32), iv (1 : Int32), rv x77, rv x79, rv b81, iv (((p5.toUInt32 >>> ((5 : Int32) &&& 31).toUInt32).toInt32) &&& (3 : Int32)), .unset, .unset, .unset] [])) t → Steps p.tables e below (s₁.setTop (entryFrame m #[(.int p0), (.int p1), (.int p2), (.int p3), (.int p4), (.int p5)] maxLocals)) t := by
              intro t kt
              refine pre94 _ ?_
              show Steps p.tables e below (T85.setTop (mkF m 219 #[iv p0, iv p1, iv p2, iv p3, iv p4, iv p5, iv ra, iv rb, iv ib, iv cb, iv ca0, iv ca1, iv cb0, iv cb1, iv (0 : Int32), iv (1 : Int32), rv x77, rv x79, rv b81, iv (((p5.toUInt32 >>> ((5 : Int32) &&& 31).toUInt32).toInt32) &&& (3 : Int32)), .unset, .unset, .unset] [(.int (2 : Int32)), (.int (((p5.toUInt32 >>> ((5 : Int32) &&& 31).toUInt32).toInt32) &&& (3 : Int32)))])) _
              refine XS.icmpYes X85.here hx rfl (pc0 := 219) (pc' := 230) rfl (hb hby at_219) rfl (feq hc219).2 (by decide) (by decide) ?_
              exact kt
            obtain ⟨T99, h99, X99, e99, E99, A99, D99, -, st99⟩ := newO X85 hx hZ hown (hw _ (List.mem_of_getElem? (i := 34) rfl)) (hw _ (List.mem_of_getElem? (i := 35) rfl)) (hw _ (List.mem_of_getElem? (i := 36) rfl)) rfl (g := (mkF m 230 #[iv p0, iv p1, iv p2, iv p3, iv p4, iv p5, iv ra, iv rb, iv ib, iv cb, iv ca0, iv ca1, iv cb0, iv cb1, iv (0 : Int32), iv (1 : Int32), rv x77, rv x79, rv b81, iv (((p5.toUInt32 >>> ((5 : Int32) &&& 31).toUInt32).toInt32) &&& (3 : Int32)), .unset, .unset, .unset] [])) rfl (hb hby at_230) (by decide) (by decide)
            obtain ⟨b99, g99⟩ : ∃ z, z = T85.heap.size := ⟨_, rfl⟩
            rw [← g99] at A99 D99 st99
            have g_b99 : n0 ≤ b99 := Nat.le_trans (Nat.le_trans Z0 K85.1) (Nat.le_of_eq g99.symm)
            have sz_b99 : h0.size ≤ b99 := Nat.le_trans K85.1 (Nat.le_of_eq g99.symm)
            have F_reason_b99 : Fld Z h99 b99 "com/example/fair_witness/fairwitness/verifier/DecodingFailure" "reason" "Lcom/example/fair_witness/fairwitness/verifier/Reason;" .null := D99 (Or.inr (hw _ (List.mem_of_getElem? (i := 48) rfl))) (ty := (.object "com/example/fair_witness/fairwitness/verifier/Reason")) (by decide)
            have F_certificateIndex_b99 : Fld Z h99 b99 "com/example/fair_witness/fairwitness/verifier/DecodingFailure" "certificateIndex" "I" (.int (0 : Int32)) := D99 (Or.inr (hw _ (List.mem_of_getElem? (i := 50) rfl))) (ty := .int) (by decide)
            have F_detail_b99 : Fld Z h99 b99 "com/example/fair_witness/fairwitness/verifier/DecodingFailure" "detail" "Ljava/lang/String;" .null := D99 (Or.inr (hw _ (List.mem_of_getElem? (i := 52) rfl))) (ty := (.object "java/lang/String")) (by decide)
            have K99 : Keep h0 h99 [] := K85.ext E99
            have pre100 : ∀ t, Steps p.tables e below (T99.setTop (mkF m 236 #[iv p0, iv p1, iv p2, iv p3, iv p4, iv p5, iv ra, iv rb, iv ib, iv cb, iv ca0, iv ca1, iv cb0, iv cb1, iv (0 : Int32), iv (1 : Int32), rv x77, rv x79, rv b81, iv (((p5.toUInt32 >>> ((5 : Int32) &&& 31).toUInt32).toInt32) &&& (3 : Int32)), .unset, .unset, .unset] [(.int rb), (.ref b99), (.ref b99)])) t → Steps p.tables e below (s₁.setTop (entryFrame m #[(.int p0), (.int p1), (.int p2), (.int p3), (.int p4), (.int p5)] maxLocals)) t := by
              intro t kt
              refine pre98 _ ?_
              show Steps p.tables e below (T85.setTop (mkF m 230 #[iv p0, iv p1, iv p2, iv p3, iv p4, iv p5, iv ra, iv rb, iv ib, iv cb, iv ca0, iv ca1, iv cb0, iv cb1, iv (0 : Int32), iv (1 : Int32), rv x77, rv x79, rv b81, iv (((p5.toUInt32 >>> ((5 : Int32) &&& 31).toUInt32).toInt32) &&& (3 : Int32)), .unset, .unset, .unset] [])) _
              refine st99 _ ?_
              show Steps p.tables e below (T99.setTop (mkF m 233 #[iv p0, iv p1, iv p2, iv p3, iv p4, iv p5, iv ra, iv rb, iv ib, iv cb, iv ca0, iv ca1, iv cb0, iv cb1, iv (0 : Int32), iv (1 : Int32), rv x77, rv x79, rv b81, iv (((p5.toUInt32 >>> ((5 : Int32) &&& 31).toUInt32).toInt32) &&& (3 : Int32)), .unset, .unset, .unset] [(.ref b99)])) _
              refine XS.dup X99.here hx rfl (hb hby at_233) rfl rfl ?_
              show Steps p.tables e below (T99.setTop (mkF m 234 #[iv p0, iv p1, iv p2, iv p3, iv p4, iv p5, iv ra, iv rb, iv ib, iv cb, iv ca0, iv ca1, iv cb0, iv cb1, iv (0 : Int32), iv (1 : Int32), rv x77, rv x79, rv b81, iv (((p5.toUInt32 >>> ((5 : Int32) &&& 31).toUInt32).toInt32) &&& (3 : Int32)), .unset, .unset, .unset] [(.ref b99), (.ref b99)])) _
              refine XS.iload X99.here hx rfl (hb hby at_234) rfl ?_
              exact kt
            obtain ⟨_, _, ⟨T101, L101, k101, n101⟩, -, X101, ⟨Lc101, hQ101, l101, y101, z101⟩, st101⟩ := Jvm.LawKit.callS X99 hx (y := (⟨"com/example/fair_witness/fairwitness/verifier/DecodingFailureEqualsPinLaw", "reason", "(I)Lcom/example/fair_witness/fairwitness/verifier/Reason;"⟩ : MethodName)) hown (mvT hZ (hw _ (List.mem_of_getElem? (i := 37) rfl))) (mvT hZ (hw _ (List.mem_of_getElem? (i := 38) rfl))) (mvT hZ (hw _ (List.mem_of_getElem? (i := 2) rfl))) (mvT hZ (hw _ (List.mem_of_getElem? (i := 39) rfl))) (by decide) (backOf (W := 2) (rm8 l Z a0 hw [] rb aK aP aS aR h99 n0 (Nat.le_trans Z0 K99.1) (O0.keep K99 all0) S_KEY_DESCRIPTION_INVALID S_PROVISIONING_INFO_INVALID S_SIGNATURE_INVALID S_ROOT_NOT_TRUSTED) hZ (hw _ (List.mem_of_getElem? (i := 39) rfl)) (hw _ (List.mem_of_getElem? (i := 2) rfl)) (by decide) (by decide)) (g := (mkF m 236 #[iv p0, iv p1, iv p2, iv p3, iv p4, iv p5, iv ra, iv rb, iv ib, iv cb, iv ca0, iv ca1, iv cb0, iv cb1, iv (0 : Int32), iv (1 : Int32), rv x77, rv x79, rv b81, iv (((p5.toUInt32 >>> ((5 : Int32) &&& 31).toUInt32).toInt32) &&& (3 : Int32)), .unset, .unset, .unset] [(.int rb), (.ref b99), (.ref b99)])) rfl (by rw [hml]; rfl) (argsL := [(.int rb)]) (rest := [(.ref b99), (.ref b99)]) (lenOf pd17 rfl) rfl (by show 2 * 0 + _ ≤ _; exact Nat.le_of_eq rfl) (hb hby at_236) (fun _ _ => ⟨rfl, e99, (by decide : 7 + 0 ≤ _), (by decide : 19 + 0 ≤ _)⟩)
            dsimp only [Pt.U, Pt.locs, Pt.cells, Pt.slots] at X101 l101 y101 z101 st101 hQ101
            subst l101 y101 z101
            obtain ⟨rfl, N101q, hh101⟩ := hQ101
            have N101 := Fr.app N85 N101q
            have pre102 : ∀ t, Steps p.tables e below (T101.setTop (mkF m 243 #[iv p0, iv p1, iv p2, iv p3, iv p4, iv p5, iv ra, iv rb, iv ib, iv cb, iv ca0, iv ca1, iv cb0, iv cb1, iv (0 : Int32), iv (1 : Int32), rv x77, rv x79, rv b81, iv (((p5.toUInt32 >>> ((5 : Int32) &&& 31).toUInt32).toInt32) &&& (3 : Int32)), .unset, .unset, .unset] [(.ref x79), (.int ib), (.ref (own_rs aK aP aS aR rb)), (.ref b99), (.ref b99)])) t → Steps p.tables e below (s₁.setTop (entryFrame m #[(.int p0), (.int p1), (.int p2), (.int p3), (.int p4), (.int p5)] maxLocals)) t := by
              intro t kt
              refine pre100 _ ?_
              show Steps p.tables e below (T99.setTop (mkF m 236 #[iv p0, iv p1, iv p2, iv p3, iv p4, iv p5, iv ra, iv rb, iv ib, iv cb, iv ca0, iv ca1, iv cb0, iv cb1, iv (0 : Int32), iv (1 : Int32), rv x77, rv x79, rv b81, iv (((p5.toUInt32 >>> ((5 : Int32) &&& 31).toUInt32).toInt32) &&& (3 : Int32)), .unset, .unset, .unset] [(.int rb), (.ref b99), (.ref b99)])) _
              refine st101 _ ?_
              show Steps p.tables e below (T101.setTop (mkF m 239 #[iv p0, iv p1, iv p2, iv p3, iv p4, iv p5, iv ra, iv rb, iv ib, iv cb, iv ca0, iv ca1, iv cb0, iv cb1, iv (0 : Int32), iv (1 : Int32), rv x77, rv x79, rv b81, iv (((p5.toUInt32 >>> ((5 : Int32) &&& 31).toUInt32).toInt32) &&& (3 : Int32)), .unset, .unset, .unset] [(.ref (own_rs aK aP aS aR rb)), (.ref b99), (.ref b99)])) _
              refine XS.iload X101.here hx rfl (hb hby at_239) rfl ?_
              show Steps p.tables e below (T101.setTop (mkF m 241 #[iv p0, iv p1, iv p2, iv p3, iv p4, iv p5, iv ra, iv rb, iv ib, iv cb, iv ca0, iv ca1, iv cb0, iv cb1, iv (0 : Int32), iv (1 : Int32), rv x77, rv x79, rv b81, iv (((p5.toUInt32 >>> ((5 : Int32) &&& 31).toUInt32).toInt32) &&& (3 : Int32)), .unset, .unset, .unset] [(.int ib), (.ref (own_rs aK aP aS aR rb)), (.ref b99), (.ref b99)])) _
              refine XS.aload X101.here hx rfl (hb hby at_241) rfl rfl ?_
              exact kt
            obtain ⟨_, _, ⟨T103, L103, k103, n103⟩, -, X103, ⟨Lc103, hQ103, l103, y103, z103⟩, st103⟩ := X101.specialBack hx (y := (⟨"com/example/fair_witness/fairwitness/verifier/DecodingFailure", "<init>", "(Lcom/example/fair_witness/fairwitness/verifier/Reason;ILjava/lang/String;)V"⟩ : MethodName)) rfl hown (mvT hZ (hw _ (List.mem_of_getElem? (i := 43) rfl))) (mvT hZ (hw _ (List.mem_of_getElem? (i := 44) rfl))) (mvT hZ (hw _ (List.mem_of_getElem? (i := 45) rfl))) (by decide) (backOf (W := 1) (rm9 l Z a0 hw [] b99 (own_rs aK aP aS aR rb) ib x79 h99 n0 (Nat.le_trans Z0 K99.1) F_reason_b99 F_certificateIndex_b99 F_detail_b99 A99 g_b99) hZ (hw _ (List.mem_of_getElem? (i := 45) rfl)) (hw _ (List.mem_of_getElem? (i := 36) rfl)) (by decide) (by decide)) (g := (mkF m 243 #[iv p0, iv p1, iv p2, iv p3, iv p4, iv p5, iv ra, iv rb, iv ib, iv cb, iv ca0, iv ca1, iv cb0, iv cb1, iv (0 : Int32), iv (1 : Int32), rv x77, rv x79, rv b81, iv (((p5.toUInt32 >>> ((5 : Int32) &&& 31).toUInt32).toInt32) &&& (3 : Int32)), .unset, .unset, .unset] [(.ref x79), (.int ib), (.ref (own_rs aK aP aS aR rb)), (.ref b99), (.ref b99)])) rfl (by rw [hml]; rfl) (Steps.refl _) (a := b99) (argsL := [(.ref (own_rs aK aP aS aR rb)), (.int ib), (.ref x79)]) (rest := [(.ref b99)]) (lenOf pd18 rfl) rfl (by show 2 * 0 + _ ≤ _; exact Nat.le_of_eq rfl) (hb hby at_243) (fun _ _ => ⟨rfl, hh101, (by decide : 7 + 0 ≤ _), (by decide : 19 + 0 ≤ _)⟩)
            dsimp only [Pt.U, Pt.locs, Pt.cells, Pt.slots] at X103 l103 y103 z103 st103 hQ103
            subst l103 y103 z103
            obtain ⟨rfl, N103q, Kc103, F0_103, F1_103, F2_103⟩ := hQ103
            have N103 := Fr.app N101 N103q
            have K103 : Keep h0 T103.heap [] := K99.trans Kc103 (allS (Or.inr sz_b99) all0)
            have pre104 : ∀ t, Steps p.tables e below (T103.setTop (mkF m 248 #[iv p0, iv p1, iv p2, iv p3, iv p4, iv p5, iv ra, iv rb, iv ib, iv cb, iv ca0, iv ca1, iv cb0, iv cb1, iv (0 : Int32), iv (1 : Int32), rv x77, rv x79, rv b81, iv (((p5.toUInt32 >>> ((5 : Int32) &&& 31).toUInt32).toInt32) &&& (3 : Int32)), rv b99, .unset, .unset] [])) t → Steps p.tables e below (s₁.setTop (entryFrame m #[(.int p0), (.int p1), (.int p2), (.int p3), (.int p4), (.int p5)] maxLocals)) t := by
              intro t kt
              refine pre102 _ ?_
              show Steps p.tables e below (T101.setTop (mkF m 243 #[iv p0, iv p1, iv p2, iv p3, iv p4, iv p5, iv ra, iv rb, iv ib, iv cb, iv ca0, iv ca1, iv cb0, iv cb1, iv (0 : Int32), iv (1 : Int32), rv x77, rv x79, rv b81, iv (((p5.toUInt32 >>> ((5 : Int32) &&& 31).toUInt32).toInt32) &&& (3 : Int32)), .unset, .unset, .unset] [(.ref x79), (.int ib), (.ref (own_rs aK aP aS aR rb)), (.ref b99), (.ref b99)])) _
              refine st103.trans ?_
              show Steps p.tables e below (T103.setTop (mkF m 246 #[iv p0, iv p1, iv p2, iv p3, iv p4, iv p5, iv ra, iv rb, iv ib, iv cb, iv ca0, iv ca1, iv cb0, iv cb1, iv (0 : Int32), iv (1 : Int32), rv x77, rv x79, rv b81, iv (((p5.toUInt32 >>> ((5 : Int32) &&& 31).toUInt32).toInt32) &&& (3 : Int32)), .unset, .unset, .unset] [(.ref b99)])) _
              refine XS.astore X103.here hx rfl (hb hby at_246) rfl rfl (l' := #[iv p0, iv p1, iv p2, iv p3, iv p4, iv p5, iv ra, iv rb, iv ib, iv cb, iv ca0, iv ca1, iv cb0, iv cb1, iv (0 : Int32), iv (1 : Int32), rv x77, rv x79, rv b81, iv (((p5.toUInt32 >>> ((5 : Int32) &&& 31).toUInt32).toInt32) &&& (3 : Int32)), rv b99, .unset, .unset]) rfl ?_
              exact kt
            obtain ⟨hsd, pre106⟩ : ((True)) ∧ ∀ t, Steps p.tables e below (T103.setTop (mkF m 279 #[iv p0, iv p1, iv p2, iv p3, iv p4, iv p5, iv ra, iv rb, iv ib, iv cb, iv ca0, iv ca1, iv cb0, iv cb1, iv (0 : Int32), iv (1 : Int32), rv x77, rv x79, rv b81, iv (((p5.toUInt32 >>> ((5 : Int32) &&& 31).toUInt32).toInt32) &&& (3 : Int32)), rv b99, .unset, .unset] [(.int (0 : Int32))])) t → Steps p.tables e below (s₁.setTop (entryFrame m #[(.int p0), (.int p1), (.int p2), (.int p3), (.int p4), (.int p5)] maxLocals)) t := by
              have pre105 : ∀ t, Steps p.tables e below (T103.setTop (mkF m 279 #[iv p0, iv p1, iv p2, iv p3, iv p4, iv p5, iv ra, iv rb, iv ib, iv cb, iv ca0, iv ca1, iv cb0, iv cb1, iv (0 : Int32), iv (1 : Int32), rv x77, rv x79, rv b81, iv (((p5.toUInt32 >>> ((5 : Int32) &&& 31).toUInt32).toInt32) &&& (3 : Int32)), rv b99, .unset, .unset] [(.int (0 : Int32))])) t → Steps p.tables e below (s₁.setTop (entryFrame m #[(.int p0), (.int p1), (.int p2), (.int p3), (.int p4), (.int p5)] maxLocals)) t := by
                intro t kt
                refine pre104 _ ?_
                show Steps p.tables e below (T103.setTop (mkF m 248 #[iv p0, iv p1, iv p2, iv p3, iv p4, iv p5, iv ra, iv rb, iv ib, iv cb, iv ca0, iv ca1, iv cb0, iv cb1, iv (0 : Int32), iv (1 : Int32), rv x77, rv x79, rv b81, iv (((p5.toUInt32 >>> ((5 : Int32) &&& 31).toUInt32).toInt32) &&& (3 : Int32)), rv b99, .unset, .unset] [])) _
                refine XS.iload X103.here hx rfl (hb hby at_248) rfl ?_
                show Steps p.tables e below (T103.setTop (mkF m 250 #[iv p0, iv p1, iv p2, iv p3, iv p4, iv p5, iv ra, iv rb, iv ib, iv cb, iv ca0, iv ca1, iv cb0, iv cb1, iv (0 : Int32), iv (1 : Int32), rv x77, rv x79, rv b81, iv (((p5.toUInt32 >>> ((5 : Int32) &&& 31).toUInt32).toInt32) &&& (3 : Int32)), rv b99, .unset, .unset] [(.int (0 : Int32))])) _
                refine XS.iload X103.here hx rfl (hb hby at_250) rfl ?_
                show Steps p.tables e below (T103.setTop (mkF m 252 #[iv p0, iv p1, iv p2, iv p3, iv p4, iv p5, iv ra, iv rb, iv ib, iv cb, iv ca0, iv ca1, iv cb0, iv cb1, iv (0 : Int32), iv (1 : Int32), rv x77, rv x79, rv b81, iv (((p5.toUInt32 >>> ((5 : Int32) &&& 31).toUInt32).toInt32) &&& (3 : Int32)), rv b99, .unset, .unset] [(.int (1 : Int32)), (.int (0 : Int32))])) _
                refine XS.icmpYes X103.here hx rfl (pc0 := 252) (pc' := 278) rfl (hb hby at_252) rfl (feq (by decide)).2 (by decide) (by decide) ?_
                show Steps p.tables e below (T103.setTop (mkF m 278 #[iv p0, iv p1, iv p2, iv p3, iv p4, iv p5, iv ra, iv rb, iv ib, iv cb, iv ca0, iv ca1, iv cb0, iv cb1, iv (0 : Int32), iv (1 : Int32), rv x77, rv x79, rv b81, iv (((p5.toUInt32 >>> ((5 : Int32) &&& 31).toUInt32).toInt32) &&& (3 : Int32)), rv b99, .unset, .unset] [])) _
                refine XS.iconst X103.here hx rfl (hb hby at_278) ?_
                exact kt
              exact ⟨trivial, pre105⟩
            have pre107 : ∀ t, Steps p.tables e below (T103.setTop (mkF m 281 #[iv p0, iv p1, iv p2, iv p3, iv p4, iv p5, iv ra, iv rb, iv ib, iv cb, iv ca0, iv ca1, iv cb0, iv cb1, iv (0 : Int32), iv (1 : Int32), rv x77, rv x79, rv b81, iv (((p5.toUInt32 >>> ((5 : Int32) &&& 31).toUInt32).toInt32) &&& (3 : Int32)), rv b99, iv (0 : Int32), .unset] [])) t → Steps p.tables e below (s₁.setTop (entryFrame m #[(.int p0), (.int p1), (.int p2), (.int p3), (.int p4), (.int p5)] maxLocals)) t := by
              intro t kt
              refine pre106 _ ?_
              show Steps p.tables e below (T103.setTop (mkF m 279 #[iv p0, iv p1, iv p2, iv p3, iv p4, iv p5, iv ra, iv rb, iv ib, iv cb, iv ca0, iv ca1, iv cb0, iv cb1, iv (0 : Int32), iv (1 : Int32), rv x77, rv x79, rv b81, iv (((p5.toUInt32 >>> ((5 : Int32) &&& 31).toUInt32).toInt32) &&& (3 : Int32)), rv b99, .unset, .unset] [(.int (0 : Int32))])) _
              refine XS.istore X103.here hx rfl (hb hby at_279) rfl (l' := #[iv p0, iv p1, iv p2, iv p3, iv p4, iv p5, iv ra, iv rb, iv ib, iv cb, iv ca0, iv ca1, iv cb0, iv cb1, iv (0 : Int32), iv (1 : Int32), rv x77, rv x79, rv b81, iv (((p5.toUInt32 >>> ((5 : Int32) &&& 31).toUInt32).toInt32) &&& (3 : Int32)), rv b99, iv (0 : Int32), .unset]) rfl ?_
              exact kt
            obtain ⟨hex, pre113⟩ : (((ra = rb) ∧ (p1 = ib)) ∨ ((ra = rb) ∧ (¬ (p1 = ib))) ∨ ((¬ (ra = rb)))) ∧ ∀ t, Steps p.tables e below (T103.setTop (mkF m 304 #[iv p0, iv p1, iv p2, iv p3, iv p4, iv p5, iv ra, iv rb, iv ib, iv cb, iv ca0, iv ca1, iv cb0, iv cb1, iv (0 : Int32), iv (1 : Int32), rv x77, rv x79, rv b81, iv (((p5.toUInt32 >>> ((5 : Int32) &&& 31).toUInt32).toInt32) &&& (3 : Int32)), rv b99, iv (0 : Int32), .unset] [(.int (0 : Int32))])) t → Steps p.tables e below (s₁.setTop (entryFrame m #[(.int p0), (.int p1), (.int p2), (.int p3), (.int p4), (.int p5)] maxLocals)) t := by
              have pre108 : ∀ t, Steps p.tables e below (T103.setTop (mkF m 285 #[iv p0, iv p1, iv p2, iv p3, iv p4, iv p5, iv ra, iv rb, iv ib, iv cb, iv ca0, iv ca1, iv cb0, iv cb1, iv (0 : Int32), iv (1 : Int32), rv x77, rv x79, rv b81, iv (((p5.toUInt32 >>> ((5 : Int32) &&& 31).toUInt32).toInt32) &&& (3 : Int32)), rv b99, iv (0 : Int32), .unset] [(.int rb), (.int ra)])) t → Steps p.tables e below (s₁.setTop (entryFrame m #[(.int p0), (.int p1), (.int p2), (.int p3), (.int p4), (.int p5)] maxLocals)) t := by
                intro t kt
                refine pre107 _ ?_
                show Steps p.tables e below (T103.setTop (mkF m 281 #[iv p0, iv p1, iv p2, iv p3, iv p4, iv p5, iv ra, iv rb, iv ib, iv cb, iv ca0, iv ca1, iv cb0, iv cb1, iv (0 : Int32), iv (1 : Int32), rv x77, rv x79, rv b81, iv (((p5.toUInt32 >>> ((5 : Int32) &&& 31).toUInt32).toInt32) &&& (3 : Int32)), rv b99, iv (0 : Int32), .unset] [])) _
                refine XS.iload X103.here hx rfl (hb hby at_281) rfl ?_
                show Steps p.tables e below (T103.setTop (mkF m 283 #[iv p0, iv p1, iv p2, iv p3, iv p4, iv p5, iv ra, iv rb, iv ib, iv cb, iv ca0, iv ca1, iv cb0, iv cb1, iv (0 : Int32), iv (1 : Int32), rv x77, rv x79, rv b81, iv (((p5.toUInt32 >>> ((5 : Int32) &&& 31).toUInt32).toInt32) &&& (3 : Int32)), rv b99, iv (0 : Int32), .unset] [(.int ra)])) _
                refine XS.iload X103.here hx rfl (hb hby at_283) rfl ?_
                exact kt
              by_cases hc285 : ra = rb
              · have pre109 : ∀ t, Steps p.tables e below (T103.setTop (mkF m 291 #[iv p0, iv p1, iv p2, iv p3, iv p4, iv p5, iv ra, iv rb, iv ib, iv cb, iv ca0, iv ca1, iv cb0, iv cb1, iv (0 : Int32), iv (1 : Int32), rv x77, rv x79, rv b81, iv (((p5.toUInt32 >>> ((5 : Int32) &&& 31).toUInt32).toInt32) &&& (3 : Int32)), rv b99, iv (0 : Int32), .unset] [(.int ib), (.int p1)])) t → Steps p.tables e below (s₁.setTop (entryFrame m #[(.int p0), (.int p1), (.int p2), (.int p3), (.int p4), (.int p5)] maxLocals)) t := by
                  intro t kt
                  refine pre108 _ ?_
                  show Steps p.tables e below (T103.setTop (mkF m 285 #[iv p0, iv p1, iv p2, iv p3, iv p4, iv p5, iv ra, iv rb, iv ib, iv cb, iv ca0, iv ca1, iv cb0, iv cb1, iv (0 : Int32), iv (1 : Int32), rv x77, rv x79, rv b81, iv (((p5.toUInt32 >>> ((5 : Int32) &&& 31).toUInt32).toInt32) &&& (3 : Int32)), rv b99, iv (0 : Int32), .unset] [(.int rb), (.int ra)])) _
                  refine XS.icmpNo X103.here hx rfl (hb hby at_285) rfl (teq hc285).2 ?_
                  show Steps p.tables e below (T103.setTop (mkF m 288 #[iv p0, iv p1, iv p2, iv p3, iv p4, iv p5, iv ra, iv rb, iv ib, iv cb, iv ca0, iv ca1, iv cb0, iv cb1, iv (0 : Int32), iv (1 : Int32), rv x77, rv x79, rv b81, iv (((p5.toUInt32 >>> ((5 : Int32) &&& 31).toUInt32).toInt32) &&& (3 : Int32)), rv b99, iv (0 : Int32), .unset] [])) _
                  refine XS.iloadN X103.here hx rfl (hb hby at_288) rfl ?_
                  show Steps p.tables e below (T103.setTop (mkF m 289 #[iv p0, iv p1, iv p2, iv p3, iv p4, iv p5, iv ra, iv rb, iv ib, iv cb, iv ca0, iv ca1, iv cb0, iv cb1, iv (0 : Int32), iv (1 : Int32), rv x77, rv x79, rv b81, iv (((p5.toUInt32 >>> ((5 : Int32) &&& 31).toUInt32).toInt32) &&& (3 : Int32)), rv b99, iv (0 : Int32), .unset] [(.int p1)])) _
                  refine XS.iload X103.here hx rfl (hb hby at_289) rfl ?_
                  exact kt
                by_cases hc291 : p1 = ib
                · have pre110 : ∀ t, Steps p.tables e below (T103.setTop (mkF m 304 #[iv p0, iv p1, iv p2, iv p3, iv p4, iv p5, iv ra, iv rb, iv ib, iv cb, iv ca0, iv ca1, iv cb0, iv cb1, iv (0 : Int32), iv (1 : Int32), rv x77, rv x79, rv b81, iv (((p5.toUInt32 >>> ((5 : Int32) &&& 31).toUInt32).toInt32) &&& (3 : Int32)), rv b99, iv (0 : Int32), .unset] [(.int (0 : Int32))])) t → Steps p.tables e below (s₁.setTop (entryFrame m #[(.int p0), (.int p1), (.int p2), (.int p3), (.int p4), (.int p5)] maxLocals)) t := by
                    intro t kt
                    refine pre109 _ ?_
                    show Steps p.tables e below (T103.setTop (mkF m 291 #[iv p0, iv p1, iv p2, iv p3, iv p4, iv p5, iv ra, iv rb, iv ib, iv cb, iv ca0, iv ca1, iv cb0, iv cb1, iv (0 : Int32), iv (1 : Int32), rv x77, rv x79, rv b81, iv (((p5.toUInt32 >>> ((5 : Int32) &&& 31).toUInt32).toInt32) &&& (3 : Int32)), rv b99, iv (0 : Int32), .unset] [(.int ib), (.int p1)])) _
                    refine XS.icmpNo X103.here hx rfl (hb hby at_291) rfl (teq hc291).2 ?_
                    show Steps p.tables e below (T103.setTop (mkF m 294 #[iv p0, iv p1, iv p2, iv p3, iv p4, iv p5, iv ra, iv rb, iv ib, iv cb, iv ca0, iv ca1, iv cb0, iv cb1, iv (0 : Int32), iv (1 : Int32), rv x77, rv x79, rv b81, iv (((p5.toUInt32 >>> ((5 : Int32) &&& 31).toUInt32).toInt32) &&& (3 : Int32)), rv b99, iv (0 : Int32), .unset] [])) _
                    refine XS.iload X103.here hx rfl (hb hby at_294) rfl ?_
                    show Steps p.tables e below (T103.setTop (mkF m 296 #[iv p0, iv p1, iv p2, iv p3, iv p4, iv p5, iv ra, iv rb, iv ib, iv cb, iv ca0, iv ca1, iv cb0, iv cb1, iv (0 : Int32), iv (1 : Int32), rv x77, rv x79, rv b81, iv (((p5.toUInt32 >>> ((5 : Int32) &&& 31).toUInt32).toInt32) &&& (3 : Int32)), rv b99, iv (0 : Int32), .unset] [(.int (0 : Int32))])) _
                    refine XS.ifYes X103.here hx rfl (pc0 := 296) (pc' := 303) rfl (hb hby at_296) rfl ((if0 _ _).trans (teq (by decide)).1) (by decide) (by decide) ?_
                    show Steps p.tables e below (T103.setTop (mkF m 303 #[iv p0, iv p1, iv p2, iv p3, iv p4, iv p5, iv ra, iv rb, iv ib, iv cb, iv ca0, iv ca1, iv cb0, iv cb1, iv (0 : Int32), iv (1 : Int32), rv x77, rv x79, rv b81, iv (((p5.toUInt32 >>> ((5 : Int32) &&& 31).toUInt32).toInt32) &&& (3 : Int32)), rv b99, iv (0 : Int32), .unset] [])) _
                    refine XS.iconst X103.here hx rfl (hb hby at_303) ?_
                    exact kt
                  exact ⟨Or.inl ⟨hc285, hc291⟩, pre110⟩
                · have pre111 : ∀ t, Steps p.tables e below (T103.setTop (mkF m 304 #[iv p0, iv p1, iv p2, iv p3, iv p4, iv p5, iv ra, iv rb, iv ib, iv cb, iv ca0, iv ca1, iv cb0, iv cb1, iv (0 : Int32), iv (1 : Int32), rv x77, rv x79, rv b81, iv (((p5.toUInt32 >>> ((5 : Int32) &&& 31).toUInt32).toInt32) &&& (3 : Int32)), rv b99, iv (0 : Int32), .unset] [(.int (0 : Int32))])) t → Steps p.tables e below (s₁.setTop (entryFrame m #[(.int p0), (.int p1), (.int p2), (.int p3), (.int p4), (.int p5)] maxLocals)) t := by
                    intro t kt
                    refine pre109 _ ?_
                    show Steps p.tables e below (T103.setTop (mkF m 291 #[iv p0, iv p1, iv p2, iv p3, iv p4, iv p5, iv ra, iv rb, iv ib, iv cb, iv ca0, iv ca1, iv cb0, iv cb1, iv (0 : Int32), iv (1 : Int32), rv x77, rv x79, rv b81, iv (((p5.toUInt32 >>> ((5 : Int32) &&& 31).toUInt32).toInt32) &&& (3 : Int32)), rv b99, iv (0 : Int32), .unset] [(.int ib), (.int p1)])) _
                    refine XS.icmpYes X103.here hx rfl (pc0 := 291) (pc' := 303) rfl (hb hby at_291) rfl (feq hc291).2 (by decide) (by decide) ?_
                    show Steps p.tables e below (T103.setTop (mkF m 303 #[iv p0, iv p1, iv p2, iv p3, iv p4, iv p5, iv ra, iv rb, iv ib, iv cb, iv ca0, iv ca1, iv cb0, iv cb1, iv (0 : Int32), iv (1 : Int32), rv x77, rv x79, rv b81, iv (((p5.toUInt32 >>> ((5 : Int32) &&& 31).toUInt32).toInt32) &&& (3 : Int32)), rv b99, iv (0 : Int32), .unset] [])) _
                    refine XS.iconst X103.here hx rfl (hb hby at_303) ?_
                    exact kt
                  exact ⟨Or.inr (Or.inl ⟨hc285, hc291⟩), pre111⟩
              · have pre112 : ∀ t, Steps p.tables e below (T103.setTop (mkF m 304 #[iv p0, iv p1, iv p2, iv p3, iv p4, iv p5, iv ra, iv rb, iv ib, iv cb, iv ca0, iv ca1, iv cb0, iv cb1, iv (0 : Int32), iv (1 : Int32), rv x77, rv x79, rv b81, iv (((p5.toUInt32 >>> ((5 : Int32) &&& 31).toUInt32).toInt32) &&& (3 : Int32)), rv b99, iv (0 : Int32), .unset] [(.int (0 : Int32))])) t → Steps p.tables e below (s₁.setTop (entryFrame m #[(.int p0), (.int p1), (.int p2), (.int p3), (.int p4), (.int p5)] maxLocals)) t := by
                  intro t kt
                  refine pre108 _ ?_
                  show Steps p.tables e below (T103.setTop (mkF m 285 #[iv p0, iv p1, iv p2, iv p3, iv p4, iv p5, iv ra, iv rb, iv ib, iv cb, iv ca0, iv ca1, iv cb0, iv cb1, iv (0 : Int32), iv (1 : Int32), rv x77, rv x79, rv b81, iv (((p5.toUInt32 >>> ((5 : Int32) &&& 31).toUInt32).toInt32) &&& (3 : Int32)), rv b99, iv (0 : Int32), .unset] [(.int rb), (.int ra)])) _
                  refine XS.icmpYes X103.here hx rfl (pc0 := 285) (pc' := 303) rfl (hb hby at_285) rfl (feq hc285).2 (by decide) (by decide) ?_
                  show Steps p.tables e below (T103.setTop (mkF m 303 #[iv p0, iv p1, iv p2, iv p3, iv p4, iv p5, iv ra, iv rb, iv ib, iv cb, iv ca0, iv ca1, iv cb0, iv cb1, iv (0 : Int32), iv (1 : Int32), rv x77, rv x79, rv b81, iv (((p5.toUInt32 >>> ((5 : Int32) &&& 31).toUInt32).toInt32) &&& (3 : Int32)), rv b99, iv (0 : Int32), .unset] [])) _
                  refine XS.iconst X103.here hx rfl (hb hby at_303) ?_
                  exact kt
                exact ⟨Or.inr (Or.inr (hc285)), pre112⟩
            have pre114 : ∀ t, Steps p.tables e below (T103.setTop (mkF m 310 #[iv p0, iv p1, iv p2, iv p3, iv p4, iv p5, iv ra, iv rb, iv ib, iv cb, iv ca0, iv ca1, iv cb0, iv cb1, iv (0 : Int32), iv (1 : Int32), rv x77, rv x79, rv b81, iv (((p5.toUInt32 >>> ((5 : Int32) &&& 31).toUInt32).toInt32) &&& (3 : Int32)), rv b99, iv (0 : Int32), iv (0 : Int32)] [(.ref b99), (.ref b81)])) t → Steps p.tables e below (s₁.setTop (entryFrame m #[(.int p0), (.int p1), (.int p2), (.int p3), (.int p4), (.int p5)] maxLocals)) t := by
              intro t kt
              refine pre113 _ ?_
              show Steps p.tables e below (T103.setTop (mkF m 304 #[iv p0, iv p1, iv p2, iv p3, iv p4, iv p5, iv ra, iv rb, iv ib, iv cb, iv ca0, iv ca1, iv cb0, iv cb1, iv (0 : Int32), iv (1 : Int32), rv x77, rv x79, rv b81, iv (((p5.toUInt32 >>> ((5 : Int32) &&& 31).toUInt32).toInt32) &&& (3 : Int32)), rv b99, iv (0 : Int32), .unset] [(.int (0 : Int32))])) _
              refine XS.istore X103.here hx rfl (hb hby at_304) rfl (l' := #[iv p0, iv p1, iv p2, iv p3, iv p4, iv p5, iv ra, iv rb, iv ib, iv cb, iv ca0, iv ca1, iv cb0, iv cb1, iv (0 : Int32), iv (1 : Int32), rv x77, rv x79, rv b81, iv (((p5.toUInt32 >>> ((5 : Int32) &&& 31).toUInt32).toInt32) &&& (3 : Int32)), rv b99, iv (0 : Int32), iv (0 : Int32)]) rfl ?_
              show Steps p.tables e below (T103.setTop (mkF m 306 #[iv p0, iv p1, iv p2, iv p3, iv p4, iv p5, iv ra, iv rb, iv ib, iv cb, iv ca0, iv ca1, iv cb0, iv cb1, iv (0 : Int32), iv (1 : Int32), rv x77, rv x79, rv b81, iv (((p5.toUInt32 >>> ((5 : Int32) &&& 31).toUInt32).toInt32) &&& (3 : Int32)), rv b99, iv (0 : Int32), iv (0 : Int32)] [])) _
              refine XS.aload X103.here hx rfl (hb hby at_306) rfl rfl ?_
              show Steps p.tables e below (T103.setTop (mkF m 308 #[iv p0, iv p1, iv p2, iv p3, iv p4, iv p5, iv ra, iv rb, iv ib, iv cb, iv ca0, iv ca1, iv cb0, iv cb1, iv (0 : Int32), iv (1 : Int32), rv x77, rv x79, rv b81, iv (((p5.toUInt32 >>> ((5 : Int32) &&& 31).toUInt32).toInt32) &&& (3 : Int32)), rv b99, iv (0 : Int32), iv (0 : Int32)] [(.ref b81)])) _
              refine XS.aload X103.here hx rfl (hb hby at_308) rfl rfl ?_
              exact kt
            obtain ⟨cq115, kq115, q115a, q115b, q115c⟩ := isOf hZ rfl (((A81.keep Kc85).ext E99).keep Kc103)
            obtain ⟨_, _, ⟨T115, L115, k115, n115⟩, -, X115, ⟨Lc115, hQ115, l115, y115, z115⟩, st115⟩ := X103.virtualBack hx (y := (⟨"com/example/fair_witness/fairwitness/verifier/DecodingFailure", "equals", "(Ljava/lang/Object;)Z"⟩ : MethodName)) (z := (⟨"com/example/fair_witness/fairwitness/verifier/DecodingFailure", "equals", "(Ljava/lang/Object;)Z"⟩ : MethodName)) hown (mvT hZ (hw _ (List.mem_of_getElem? (i := 53) rfl))) (mvT hZ (hw _ (List.mem_of_getElem? (i := 54) rfl))) (notFace_of_selects (args := #[]) (mvT hZ (hw _ (List.mem_of_getElem? (i := 56) rfl)))) (mvT hZ (hw _ (List.mem_of_getElem? (i := 56) rfl))) (mvT hZ (hw _ (List.mem_of_getElem? (i := 55) rfl))) (by decide) (backOf (W := 0) (rm10v21 l Z a0 hw [] b81 b99 (own_rs aK aP aS aR ra) p1 x77 (own_rs aK aP aS aR rb) ib x79 y77 y79 ky77 ky79 (ca0.toInt8.toInt32) (ca1.toInt8.toInt32) (cb0.toInt8.toInt32) cs T103.heap n0 (Nat.le_trans Z0 K103.1) (O0.keep K103 all0) S_cs hcs ((F0_85.ext E99).keep Kc103 (ninS (Nat.ne_of_lt (Nat.lt_of_lt_of_le (A81.keep Kc85).lt (Nat.le_of_eq g99.symm))) nin0)) ((F1_85.ext E99).keep Kc103 (ninS (Nat.ne_of_lt (Nat.lt_of_lt_of_le (A81.keep Kc85).lt (Nat.le_of_eq g99.symm))) nin0)) ((F2_85.ext E99).keep Kc103 (ninS (Nat.ne_of_lt (Nat.lt_of_lt_of_le (A81.keep Kc85).lt (Nat.le_of_eq g99.symm))) nin0)) (((A81.keep Kc85).ext E99).keep Kc103) F0_103 F1_103 F2_103 (A99.keep Kc103) (((((Fv77.keep Kc79 nin0).ext E81).keep Kc85 (ninS (Nat.ne_of_lt (Nat.lt_of_lt_of_le (Ex77.keep Kc79).lt (Nat.le_of_eq g81.symm))) nin0)).ext E99).keep Kc103 (ninS (Nat.ne_of_lt (Nat.lt_of_lt_of_le (((Ex77.keep Kc79).ext E81).keep Kc85).lt (Nat.le_of_eq g99.symm))) nin0)) (((((Fc77.keep Kc79 nin0).ext E81).keep Kc85 (ninS (Nat.ne_of_lt (Nat.lt_of_lt_of_le (Ex77.keep Kc79).lt (Nat.le_of_eq g81.symm))) nin0)).ext E99).keep Kc103 (ninS (Nat.ne_of_lt (Nat.lt_of_lt_of_le (((Ex77.keep Kc79).ext E81).keep Kc85).lt (Nat.le_of_eq g99.symm))) nin0)) (((((Ex77.keep Kc79).ext E81).keep Kc85).ext E99).keep Kc103) (((((Vy77.keep Kc79 nin0).ext E81).keep Kc85 (ninS (Nat.ne_of_lt (Nat.lt_of_lt_of_le (Vy77.keep Kc79 nin0).lt (Nat.le_of_eq g81.symm))) nin0)).ext E99).keep Kc103 (ninS (Nat.ne_of_lt (Nat.lt_of_lt_of_le (((Vy77.keep Kc79 nin0).ext E81).keep Kc85 (ninS (Nat.ne_of_lt (Nat.lt_of_lt_of_le (Vy77.keep Kc79 nin0).lt (Nat.le_of_eq g81.symm))) nin0)).lt (Nat.le_of_eq g99.symm))) nin0)) ((((Fv79.ext E81).keep Kc85 (ninS (Nat.ne_of_lt (Nat.lt_of_lt_of_le Ex79.lt (Nat.le_of_eq g81.symm))) nin0)).ext E99).keep Kc103 (ninS (Nat.ne_of_lt (Nat.lt_of_lt_of_le ((Ex79.ext E81).keep Kc85).lt (Nat.le_of_eq g99.symm))) nin0)) ((((Fc79.ext E81).keep Kc85 (ninS (Nat.ne_of_lt (Nat.lt_of_lt_of_le Ex79.lt (Nat.le_of_eq g81.symm))) nin0)).ext E99).keep Kc103 (ninS (Nat.ne_of_lt (Nat.lt_of_lt_of_le ((Ex79.ext E81).keep Kc85).lt (Nat.le_of_eq g99.symm))) nin0)) ((((Ex79.ext E81).keep Kc85).ext E99).keep Kc103) ((((Vy79.ext E81).keep Kc85 (ninS (Nat.ne_of_lt (Nat.lt_of_lt_of_le Vy79.lt (Nat.le_of_eq g81.symm))) nin0)).ext E99).keep Kc103 (ninS (Nat.ne_of_lt (Nat.lt_of_lt_of_le ((Vy79.ext E81).keep Kc85 (ninS (Nat.ne_of_lt (Nat.lt_of_lt_of_le Vy79.lt (Nat.le_of_eq g81.symm))) nin0)).lt (Nat.le_of_eq g99.symm))) nin0)) ne_x77_x79) hZ (hw _ (List.mem_of_getElem? (i := 57) rfl)) (hw _ (List.mem_of_getElem? (i := 36) rfl)) (by decide) (by decide)) q115a q115c (g := (mkF m 310 #[iv p0, iv p1, iv p2, iv p3, iv p4, iv p5, iv ra, iv rb, iv ib, iv cb, iv ca0, iv ca1, iv cb0, iv cb1, iv (0 : Int32), iv (1 : Int32), rv x77, rv x79, rv b81, iv (((p5.toUInt32 >>> ((5 : Int32) &&& 31).toUInt32).toInt32) &&& (3 : Int32)), rv b99, iv (0 : Int32), iv (0 : Int32)] [(.ref b99), (.ref b81)])) rfl (by rw [hml]; rfl) (Steps.refl _) (argsL := [(.ref b99)]) (rest := []) (lenOf pd15 rfl) rfl (by show 2 * 0 + _ ≤ _; exact Nat.le_of_eq rfl) (hb hby at_310) (fun _ _ => ⟨rfl, rfl, (by decide : 7 + 0 ≤ _), (by decide : 19 + 0 ≤ _)⟩)
            dsimp only [Pt.U, Pt.locs, Pt.cells, Pt.slots] at X115 l115 y115 z115 st115 hQ115
            subst l115 y115 z115
            obtain ⟨rfl, N115q, hh115⟩ := hQ115
            have N115 := Fr.app N103 N115q
            have pre116 : ∀ t, Steps p.tables e below (T115.setTop (mkF m 315 #[iv p0, iv p1, iv p2, iv p3, iv p4, iv p5, iv ra, iv rb, iv ib, iv cb, iv ca0, iv ca1, iv cb0, iv cb1, iv (0 : Int32), iv (1 : Int32), rv x77, rv x79, rv b81, iv (((p5.toUInt32 >>> ((5 : Int32) &&& 31).toUInt32).toInt32) &&& (3 : Int32)), rv b99, iv (0 : Int32), iv (0 : Int32)] [(.int (0 : Int32)), (.int (own_de21 (own_rs aK aP aS aR ra) p1 (own_rs aK aP aS aR rb) ib (ca0.toInt8.toInt32) (ca1.toInt8.toInt32) (cb0.toInt8.toInt32)))])) t → Steps p.tables e below (s₁.setTop (entryFrame m #[(.int p0), (.int p1), (.int p2), (.int p3), (.int p4), (.int p5)] maxLocals)) t := by
              intro t kt
              refine pre114 _ ?_
              show Steps p.tables e below (T103.setTop (mkF m 310 #[iv p0, iv p1, iv p2, iv p3, iv p4, iv p5, iv ra, iv rb, iv ib, iv cb, iv ca0, iv ca1, iv cb0, iv cb1, iv (0 : Int32), iv (1 : Int32), rv x77, rv x79, rv b81, iv (((p5.toUInt32 >>> ((5 : Int32) &&& 31).toUInt32).toInt32) &&& (3 : Int32)), rv b99, iv (0 : Int32), iv (0 : Int32)] [(.ref b99), (.ref b81)])) _
              refine st115.trans ?_
              show Steps p.tables e below (T115.setTop (mkF m 313 #[iv p0, iv p1, iv p2, iv p3, iv p4, iv p5, iv ra, iv rb, iv ib, iv cb, iv ca0, iv ca1, iv cb0, iv cb1, iv (0 : Int32), iv (1 : Int32), rv x77, rv x79, rv b81, iv (((p5.toUInt32 >>> ((5 : Int32) &&& 31).toUInt32).toInt32) &&& (3 : Int32)), rv b99, iv (0 : Int32), iv (0 : Int32)] [(.int (own_de21 (own_rs aK aP aS aR ra) p1 (own_rs aK aP aS aR rb) ib (ca0.toInt8.toInt32) (ca1.toInt8.toInt32) (cb0.toInt8.toInt32)))])) _
              refine XS.iload X115.here hx rfl (hb hby at_313) rfl ?_
              exact kt
            by_cases hc315 : (own_de21 (own_rs aK aP aS aR ra) p1 (own_rs aK aP aS aR rb) ib (ca0.toInt8.toInt32) (ca1.toInt8.toInt32) (cb0.toInt8.toInt32)) = (0 : Int32)
            · have pre117 : ∀ t, Steps p.tables e below (T115.setTop (mkF m 322 #[iv p0, iv p1, iv p2, iv p3, iv p4, iv p5, iv ra, iv rb, iv ib, iv cb, iv ca0, iv ca1, iv cb0, iv cb1, iv (0 : Int32), iv (1 : Int32), rv x77, rv x79, rv b81, iv (((p5.toUInt32 >>> ((5 : Int32) &&& 31).toUInt32).toInt32) &&& (3 : Int32)), rv b99, iv (0 : Int32), iv (0 : Int32)] [(.ref b81), (.ref b99)])) t → Steps p.tables e below (s₁.setTop (entryFrame m #[(.int p0), (.int p1), (.int p2), (.int p3), (.int p4), (.int p5)] maxLocals)) t := by
                intro t kt
                refine pre116 _ ?_
                show Steps p.tables e below (T115.setTop (mkF m 315 #[iv p0, iv p1, iv p2, iv p3, iv p4, iv p5, iv ra, iv rb, iv ib, iv cb, iv ca0, iv ca1, iv cb0, iv cb1, iv (0 : Int32), iv (1 : Int32), rv x77, rv x79, rv b81, iv (((p5.toUInt32 >>> ((5 : Int32) &&& 31).toUInt32).toInt32) &&& (3 : Int32)), rv b99, iv (0 : Int32), iv (0 : Int32)] [(.int (0 : Int32)), (.int (own_de21 (own_rs aK aP aS aR ra) p1 (own_rs aK aP aS aR rb) ib (ca0.toInt8.toInt32) (ca1.toInt8.toInt32) (cb0.toInt8.toInt32)))])) _
                refine XS.icmpNo X115.here hx rfl (hb hby at_315) rfl (teq hc315).2 ?_
                show Steps p.tables e below (T115.setTop (mkF m 318 #[iv p0, iv p1, iv p2, iv p3, iv p4, iv p5, iv ra, iv rb, iv ib, iv cb, iv ca0, iv ca1, iv cb0, iv cb1, iv (0 : Int32), iv (1 : Int32), rv x77, rv x79, rv b81, iv (((p5.toUInt32 >>> ((5 : Int32) &&& 31).toUInt32).toInt32) &&& (3 : Int32)), rv b99, iv (0 : Int32), iv (0 : Int32)] [])) _
                refine XS.aload X115.here hx rfl (hb hby at_318) rfl rfl ?_
                show Steps p.tables e below (T115.setTop (mkF m 320 #[iv p0, iv p1, iv p2, iv p3, iv p4, iv p5, iv ra, iv rb, iv ib, iv cb, iv ca0, iv ca1, iv cb0, iv cb1, iv (0 : Int32), iv (1 : Int32), rv x77, rv x79, rv b81, iv (((p5.toUInt32 >>> ((5 : Int32) &&& 31).toUInt32).toInt32) &&& (3 : Int32)), rv b99, iv (0 : Int32), iv (0 : Int32)] [(.ref b99)])) _
                refine XS.aload X115.here hx rfl (hb hby at_320) rfl rfl ?_
                exact kt
              obtain ⟨cq118, kq118, q118a, q118b, q118c⟩ := isOf hZ hh115 (A99.keep Kc103)
              obtain ⟨_, _, ⟨T118, L118, k118, n118⟩, -, X118, ⟨Lc118, hQ118, l118, y118, z118⟩, st118⟩ := X115.virtualBack hx (y := (⟨"com/example/fair_witness/fairwitness/verifier/DecodingFailure", "equals", "(Ljava/lang/Object;)Z"⟩ : MethodName)) (z := (⟨"com/example/fair_witness/fairwitness/verifier/DecodingFailure", "equals", "(Ljava/lang/Object;)Z"⟩ : MethodName)) hown (mvT hZ (hw _ (List.mem_of_getElem? (i := 53) rfl))) (mvT hZ (hw _ (List.mem_of_getElem? (i := 54) rfl))) (notFace_of_selects (args := #[]) (mvT hZ (hw _ (List.mem_of_getElem? (i := 56) rfl)))) (mvT hZ (hw _ (List.mem_of_getElem? (i := 56) rfl))) (mvT hZ (hw _ (List.mem_of_getElem? (i := 55) rfl))) (by decide) (backOf (W := 0) (rm10v12 l Z a0 hw [] b99 b81 (own_rs aK aP aS aR rb) ib x79 (own_rs aK aP aS aR ra) p1 x77 y79 y77 ky79 ky77 (cb0.toInt8.toInt32) (ca0.toInt8.toInt32) (ca1.toInt8.toInt32) cs T103.heap n0 (Nat.le_trans Z0 K103.1) (O0.keep K103 all0) S_cs hcs F0_103 F1_103 F2_103 (A99.keep Kc103) ((F0_85.ext E99).keep Kc103 (ninS (Nat.ne_of_lt (Nat.lt_of_lt_of_le (A81.keep Kc85).lt (Nat.le_of_eq g99.symm))) nin0)) ((F1_85.ext E99).keep Kc103 (ninS (Nat.ne_of_lt (Nat.lt_of_lt_of_le (A81.keep Kc85).lt (Nat.le_of_eq g99.symm))) nin0)) ((F2_85.ext E99).keep Kc103 (ninS (Nat.ne_of_lt (Nat.lt_of_lt_of_le (A81.keep Kc85).lt (Nat.le_of_eq g99.symm))) nin0)) (((A81.keep Kc85).ext E99).keep Kc103) ((((Fv79.ext E81).keep Kc85 (ninS (Nat.ne_of_lt (Nat.lt_of_lt_of_le Ex79.lt (Nat.le_of_eq g81.symm))) nin0)).ext E99).keep Kc103 (ninS (Nat.ne_of_lt (Nat.lt_of_lt_of_le ((Ex79.ext E81).keep Kc85).lt (Nat.le_of_eq g99.symm))) nin0)) ((((Fc79.ext E81).keep Kc85 (ninS (Nat.ne_of_lt (Nat.lt_of_lt_of_le Ex79.lt (Nat.le_of_eq g81.symm))) nin0)).ext E99).keep Kc103 (ninS (Nat.ne_of_lt (Nat.lt_of_lt_of_le ((Ex79.ext E81).keep Kc85).lt (Nat.le_of_eq g99.symm))) nin0)) ((((Ex79.ext E81).keep Kc85).ext E99).keep Kc103) ((((Vy79.ext E81).keep Kc85 (ninS (Nat.ne_of_lt (Nat.lt_of_lt_of_le Vy79.lt (Nat.le_of_eq g81.symm))) nin0)).ext E99).keep Kc103 (ninS (Nat.ne_of_lt (Nat.lt_of_lt_of_le ((Vy79.ext E81).keep Kc85 (ninS (Nat.ne_of_lt (Nat.lt_of_lt_of_le Vy79.lt (Nat.le_of_eq g81.symm))) nin0)).lt (Nat.le_of_eq g99.symm))) nin0)) (((((Fv77.keep Kc79 nin0).ext E81).keep Kc85 (ninS (Nat.ne_of_lt (Nat.lt_of_lt_of_le (Ex77.keep Kc79).lt (Nat.le_of_eq g81.symm))) nin0)).ext E99).keep Kc103 (ninS (Nat.ne_of_lt (Nat.lt_of_lt_of_le (((Ex77.keep Kc79).ext E81).keep Kc85).lt (Nat.le_of_eq g99.symm))) nin0)) (((((Fc77.keep Kc79 nin0).ext E81).keep Kc85 (ninS (Nat.ne_of_lt (Nat.lt_of_lt_of_le (Ex77.keep Kc79).lt (Nat.le_of_eq g81.symm))) nin0)).ext E99).keep Kc103 (ninS (Nat.ne_of_lt (Nat.lt_of_lt_of_le (((Ex77.keep Kc79).ext E81).keep Kc85).lt (Nat.le_of_eq g99.symm))) nin0)) (((((Ex77.keep Kc79).ext E81).keep Kc85).ext E99).keep Kc103) (((((Vy77.keep Kc79 nin0).ext E81).keep Kc85 (ninS (Nat.ne_of_lt (Nat.lt_of_lt_of_le (Vy77.keep Kc79 nin0).lt (Nat.le_of_eq g81.symm))) nin0)).ext E99).keep Kc103 (ninS (Nat.ne_of_lt (Nat.lt_of_lt_of_le (((Vy77.keep Kc79 nin0).ext E81).keep Kc85 (ninS (Nat.ne_of_lt (Nat.lt_of_lt_of_le (Vy77.keep Kc79 nin0).lt (Nat.le_of_eq g81.symm))) nin0)).lt (Nat.le_of_eq g99.symm))) nin0)) (Ne.symm ne_x77_x79)) hZ (hw _ (List.mem_of_getElem? (i := 57) rfl)) (hw _ (List.mem_of_getElem? (i := 36) rfl)) (by decide) (by decide)) q118a q118c (g := (mkF m 322 #[iv p0, iv p1, iv p2, iv p3, iv p4, iv p5, iv ra, iv rb, iv ib, iv cb, iv ca0, iv ca1, iv cb0, iv cb1, iv (0 : Int32), iv (1 : Int32), rv x77, rv x79, rv b81, iv (((p5.toUInt32 >>> ((5 : Int32) &&& 31).toUInt32).toInt32) &&& (3 : Int32)), rv b99, iv (0 : Int32), iv (0 : Int32)] [(.ref b81), (.ref b99)])) rfl (by rw [hml]; rfl) (Steps.refl _) (argsL := [(.ref b81)]) (rest := []) (lenOf pd15 rfl) rfl (by show 2 * 0 + _ ≤ _; exact Nat.le_of_eq rfl) (hb hby at_322) (fun _ _ => ⟨rfl, hh115, (by decide : 7 + 0 ≤ _), (by decide : 19 + 0 ≤ _)⟩)
              dsimp only [Pt.U, Pt.locs, Pt.cells, Pt.slots] at X118 l118 y118 z118 st118 hQ118
              subst l118 y118 z118
              obtain ⟨rfl, N118q, hh118⟩ := hQ118
              have N118 := Fr.app N115 N118q
              have pre119 : ∀ t, Steps p.tables e below (T118.setTop (mkF m 327 #[iv p0, iv p1, iv p2, iv p3, iv p4, iv p5, iv ra, iv rb, iv ib, iv cb, iv ca0, iv ca1, iv cb0, iv cb1, iv (0 : Int32), iv (1 : Int32), rv x77, rv x79, rv b81, iv (((p5.toUInt32 >>> ((5 : Int32) &&& 31).toUInt32).toInt32) &&& (3 : Int32)), rv b99, iv (0 : Int32), iv (0 : Int32)] [(.int (0 : Int32)), (.int (own_de12 (own_rs aK aP aS aR rb) ib (own_rs aK aP aS aR ra) p1 (cb0.toInt8.toInt32) (ca0.toInt8.toInt32) (ca1.toInt8.toInt32)))])) t → Steps p.tables e below (s₁.setTop (entryFrame m #[(.int p0), (.int p1), (.int p2), (.int p3), (.int p4), (.int p5)] maxLocals)) t := by
                intro t kt
                refine pre117 _ ?_
                show Steps p.tables e below (T115.setTop (mkF m 322 #[iv p0, iv p1, iv p2, iv p3, iv p4, iv p5, iv ra, iv rb, iv ib, iv cb, iv ca0, iv ca1, iv cb0, iv cb1, iv (0 : Int32), iv (1 : Int32), rv x77, rv x79, rv b81, iv (((p5.toUInt32 >>> ((5 : Int32) &&& 31).toUInt32).toInt32) &&& (3 : Int32)), rv b99, iv (0 : Int32), iv (0 : Int32)] [(.ref b81), (.ref b99)])) _
                refine st118.trans ?_
                show Steps p.tables e below (T118.setTop (mkF m 325 #[iv p0, iv p1, iv p2, iv p3, iv p4, iv p5, iv ra, iv rb, iv ib, iv cb, iv ca0, iv ca1, iv cb0, iv cb1, iv (0 : Int32), iv (1 : Int32), rv x77, rv x79, rv b81, iv (((p5.toUInt32 >>> ((5 : Int32) &&& 31).toUInt32).toInt32) &&& (3 : Int32)), rv b99, iv (0 : Int32), iv (0 : Int32)] [(.int (own_de12 (own_rs aK aP aS aR rb) ib (own_rs aK aP aS aR ra) p1 (cb0.toInt8.toInt32) (ca0.toInt8.toInt32) (ca1.toInt8.toInt32)))])) _
                refine XS.iload X118.here hx rfl (hb hby at_325) rfl ?_
                exact kt
              by_cases hc327 : (own_de12 (own_rs aK aP aS aR rb) ib (own_rs aK aP aS aR ra) p1 (cb0.toInt8.toInt32) (ca0.toInt8.toInt32) (ca1.toInt8.toInt32)) = (0 : Int32)
              · have pre120 : ∀ t, Steps p.tables e below (T118.setTop (mkF m 335 #[iv p0, iv p1, iv p2, iv p3, iv p4, iv p5, iv ra, iv rb, iv ib, iv cb, iv ca0, iv ca1, iv cb0, iv cb1, iv (0 : Int32), iv (1 : Int32), rv x77, rv x79, rv b81, iv (((p5.toUInt32 >>> ((5 : Int32) &&& 31).toUInt32).toInt32) &&& (3 : Int32)), rv b99, iv (0 : Int32), iv (0 : Int32)] [(.int (1 : Int32))])) t → Steps p.tables e below (s₁.setTop (entryFrame m #[(.int p0), (.int p1), (.int p2), (.int p3), (.int p4), (.int p5)] maxLocals)) t := by
                  intro t kt
                  refine pre119 _ ?_
                  show Steps p.tables e below (T118.setTop (mkF m 327 #[iv p0, iv p1, iv p2, iv p3, iv p4, iv p5, iv ra, iv rb, iv ib, iv cb, iv ca0, iv ca1, iv cb0, iv cb1, iv (0 : Int32), iv (1 : Int32), rv x77, rv x79, rv b81, iv (((p5.toUInt32 >>> ((5 : Int32) &&& 31).toUInt32).toInt32) &&& (3 : Int32)), rv b99, iv (0 : Int32), iv (0 : Int32)] [(.int (0 : Int32)), (.int (own_de12 (own_rs aK aP aS aR rb) ib (own_rs aK aP aS aR ra) p1 (cb0.toInt8.toInt32) (ca0.toInt8.toInt32) (ca1.toInt8.toInt32)))])) _
                  refine XS.icmpNo X118.here hx rfl (hb hby at_327) rfl (teq hc327).2 ?_
                  show Steps p.tables e below (T118.setTop (mkF m 330 #[iv p0, iv p1, iv p2, iv p3, iv p4, iv p5, iv ra, iv rb, iv ib, iv cb, iv ca0, iv ca1, iv cb0, iv cb1, iv (0 : Int32), iv (1 : Int32), rv x77, rv x79, rv b81, iv (((p5.toUInt32 >>> ((5 : Int32) &&& 31).toUInt32).toInt32) &&& (3 : Int32)), rv b99, iv (0 : Int32), iv (0 : Int32)] [])) _
                  refine XS.iconst X118.here hx rfl (hb hby at_330) ?_
                  show Steps p.tables e below (T118.setTop (mkF m 331 #[iv p0, iv p1, iv p2, iv p3, iv p4, iv p5, iv ra, iv rb, iv ib, iv cb, iv ca0, iv ca1, iv cb0, iv cb1, iv (0 : Int32), iv (1 : Int32), rv x77, rv x79, rv b81, iv (((p5.toUInt32 >>> ((5 : Int32) &&& 31).toUInt32).toInt32) &&& (3 : Int32)), rv b99, iv (0 : Int32), iv (0 : Int32)] [(.int (1 : Int32))])) _
                  refine XS.goto X118.here hx rfl (pc0 := 331) (pc' := 335) rfl (hb hby at_331) (by decide) (by decide) ?_
                  exact kt
                obtain ⟨fs, hr, hrun, hended, hW, hsame⟩ := X118.leave (v := some (.int (1 : Int32))) (fun h => by rw [Bd.returns] at h; cases h)
                refine ⟨_, _, pre120 _ ?_, hrun, hended, _, _, rfl, ?_, ⟨_, rfl⟩, hW, hsame.mono (by decide) (by decide)⟩
                · show Steps p.tables e below (T118.setTop (mkF m 335 #[iv p0, iv p1, iv p2, iv p3, iv p4, iv p5, iv ra, iv rb, iv ib, iv cb, iv ca0, iv ca1, iv cb0, iv cb1, iv (0 : Int32), iv (1 : Int32), rv x77, rv x79, rv b81, iv (((p5.toUInt32 >>> ((5 : Int32) &&& 31).toUInt32).toInt32) &&& (3 : Int32)), rv b99, iv (0 : Int32), iv (0 : Int32)] [(.int (1 : Int32))])) _
                  exact retN X118 hx (t := .boolean) Bd.returns (by simp) (hb hby at_335) hr
                · show Q0 Z p0 p1 p2 p3 p4 p5 aK aP aS aR cs h0 n0 _ T118.heap _
                  rw [hh118]
                  exact ⟨rfl, N118⟩
              · have pre121 : ∀ t, Steps p.tables e below (T118.setTop (mkF m 335 #[iv p0, iv p1, iv p2, iv p3, iv p4, iv p5, iv ra, iv rb, iv ib, iv cb, iv ca0, iv ca1, iv cb0, iv cb1, iv (0 : Int32), iv (1 : Int32), rv x77, rv x79, rv b81, iv (((p5.toUInt32 >>> ((5 : Int32) &&& 31).toUInt32).toInt32) &&& (3 : Int32)), rv b99, iv (0 : Int32), iv (0 : Int32)] [(.int (0 : Int32))])) t → Steps p.tables e below (s₁.setTop (entryFrame m #[(.int p0), (.int p1), (.int p2), (.int p3), (.int p4), (.int p5)] maxLocals)) t := by
                  intro t kt
                  refine pre119 _ ?_
                  show Steps p.tables e below (T118.setTop (mkF m 327 #[iv p0, iv p1, iv p2, iv p3, iv p4, iv p5, iv ra, iv rb, iv ib, iv cb, iv ca0, iv ca1, iv cb0, iv cb1, iv (0 : Int32), iv (1 : Int32), rv x77, rv x79, rv b81, iv (((p5.toUInt32 >>> ((5 : Int32) &&& 31).toUInt32).toInt32) &&& (3 : Int32)), rv b99, iv (0 : Int32), iv (0 : Int32)] [(.int (0 : Int32)), (.int (own_de12 (own_rs aK aP aS aR rb) ib (own_rs aK aP aS aR ra) p1 (cb0.toInt8.toInt32) (ca0.toInt8.toInt32) (ca1.toInt8.toInt32)))])) _
                  refine XS.icmpYes X118.here hx rfl (pc0 := 327) (pc' := 334) rfl (hb hby at_327) rfl (feq hc327).2 (by decide) (by decide) ?_
                  show Steps p.tables e below (T118.setTop (mkF m 334 #[iv p0, iv p1, iv p2, iv p3, iv p4, iv p5, iv ra, iv rb, iv ib, iv cb, iv ca0, iv ca1, iv cb0, iv cb1, iv (0 : Int32), iv (1 : Int32), rv x77, rv x79, rv b81, iv (((p5.toUInt32 >>> ((5 : Int32) &&& 31).toUInt32).toInt32) &&& (3 : Int32)), rv b99, iv (0 : Int32), iv (0 : Int32)] [])) _
                  refine XS.iconst X118.here hx rfl (hb hby at_334) ?_
                  exact kt
                exfalso
                exact hc327 (by first | exact own_fin12 _ _ _ _ _ _ _ | exact own_fin21 _ _ _ _ _ _ _)
            · have pre122 : ∀ t, Steps p.tables e below (T115.setTop (mkF m 335 #[iv p0, iv p1, iv p2, iv p3, iv p4, iv p5, iv ra, iv rb, iv ib, iv cb, iv ca0, iv ca1, iv cb0, iv cb1, iv (0 : Int32), iv (1 : Int32), rv x77, rv x79, rv b81, iv (((p5.toUInt32 >>> ((5 : Int32) &&& 31).toUInt32).toInt32) &&& (3 : Int32)), rv b99, iv (0 : Int32), iv (0 : Int32)] [(.int (0 : Int32))])) t → Steps p.tables e below (s₁.setTop (entryFrame m #[(.int p0), (.int p1), (.int p2), (.int p3), (.int p4), (.int p5)] maxLocals)) t := by
                intro t kt
                refine pre116 _ ?_
                show Steps p.tables e below (T115.setTop (mkF m 315 #[iv p0, iv p1, iv p2, iv p3, iv p4, iv p5, iv ra, iv rb, iv ib, iv cb, iv ca0, iv ca1, iv cb0, iv cb1, iv (0 : Int32), iv (1 : Int32), rv x77, rv x79, rv b81, iv (((p5.toUInt32 >>> ((5 : Int32) &&& 31).toUInt32).toInt32) &&& (3 : Int32)), rv b99, iv (0 : Int32), iv (0 : Int32)] [(.int (0 : Int32)), (.int (own_de21 (own_rs aK aP aS aR ra) p1 (own_rs aK aP aS aR rb) ib (ca0.toInt8.toInt32) (ca1.toInt8.toInt32) (cb0.toInt8.toInt32)))])) _
                refine XS.icmpYes X115.here hx rfl (pc0 := 315) (pc' := 334) rfl (hb hby at_315) rfl (feq hc315).2 (by decide) (by decide) ?_
                show Steps p.tables e below (T115.setTop (mkF m 334 #[iv p0, iv p1, iv p2, iv p3, iv p4, iv p5, iv ra, iv rb, iv ib, iv cb, iv ca0, iv ca1, iv cb0, iv cb1, iv (0 : Int32), iv (1 : Int32), rv x77, rv x79, rv b81, iv (((p5.toUInt32 >>> ((5 : Int32) &&& 31).toUInt32).toInt32) &&& (3 : Int32)), rv b99, iv (0 : Int32), iv (0 : Int32)] [])) _
                refine XS.iconst X115.here hx rfl (hb hby at_334) ?_
                exact kt
              exfalso
              exact hc315 (by first | exact own_fin12 _ _ _ _ _ _ _ | exact own_fin21 _ _ _ _ _ _ _)
  · have pre123 : ∀ t, Steps p.tables e below (s₁.setTop (mkF m 113 #[iv p0, iv p1, iv p2, iv p3, iv p4, iv p5, iv ra, iv rb, iv ib, iv cb, iv ca0, iv ca1, iv cb0, iv cb1, iv (1 : Int32), .unset, .unset, .unset, .unset, .unset, .unset, .unset, .unset] [(.int (p5 &&& (16 : Int32)))])) t → Steps p.tables e below (s₁.setTop (entryFrame m #[(.int p0), (.int p1), (.int p2), (.int p3), (.int p4), (.int p5)] maxLocals)) t := by
      intro t kt
      refine pre19 _ ?_
      show Steps p.tables e below (s₁.setTop (mkF m 98 #[iv p0, iv p1, iv p2, iv p3, iv p4, iv p5, iv ra, iv rb, iv ib, iv cb, iv ca0, iv ca1, iv cb0, iv cb1, .unset, .unset, .unset, .unset, .unset, .unset, .unset, .unset, .unset] [(.int (p5 &&& (8 : Int32)))])) _
      refine XS.ifNo X0.here hx rfl (hb hby at_98) rfl ((if0 _ _).trans (feq hc98).1) ?_
      show Steps p.tables e below (s₁.setTop (mkF m 101 #[iv p0, iv p1, iv p2, iv p3, iv p4, iv p5, iv ra, iv rb, iv ib, iv cb, iv ca0, iv ca1, iv cb0, iv cb1, .unset, .unset, .unset, .unset, .unset, .unset, .unset, .unset, .unset] [])) _
      refine XS.iconst X0.here hx rfl (hb hby at_101) ?_
      show Steps p.tables e below (s₁.setTop (mkF m 102 #[iv p0, iv p1, iv p2, iv p3, iv p4, iv p5, iv ra, iv rb, iv ib, iv cb, iv ca0, iv ca1, iv cb0, iv cb1, .unset, .unset, .unset, .unset, .unset, .unset, .unset, .unset, .unset] [(.int (1 : Int32))])) _
      refine XS.goto X0.here hx rfl (pc0 := 102) (pc' := 106) rfl (hb hby at_102) (by decide) (by decide) ?_
      show Steps p.tables e below (s₁.setTop (mkF m 106 #[iv p0, iv p1, iv p2, iv p3, iv p4, iv p5, iv ra, iv rb, iv ib, iv cb, iv ca0, iv ca1, iv cb0, iv cb1, .unset, .unset, .unset, .unset, .unset, .unset, .unset, .unset, .unset] [(.int (1 : Int32))])) _
      refine XS.istore X0.here hx rfl (hb hby at_106) rfl (l' := #[iv p0, iv p1, iv p2, iv p3, iv p4, iv p5, iv ra, iv rb, iv ib, iv cb, iv ca0, iv ca1, iv cb0, iv cb1, iv (1 : Int32), .unset, .unset, .unset, .unset, .unset, .unset, .unset, .unset]) rfl ?_
      show Steps p.tables e below (s₁.setTop (mkF m 108 #[iv p0, iv p1, iv p2, iv p3, iv p4, iv p5, iv ra, iv rb, iv ib, iv cb, iv ca0, iv ca1, iv cb0, iv cb1, iv (1 : Int32), .unset, .unset, .unset, .unset, .unset, .unset, .unset, .unset] [])) _
      refine XS.iload X0.here hx rfl (hb hby at_108) rfl ?_
      show Steps p.tables e below (s₁.setTop (mkF m 110 #[iv p0, iv p1, iv p2, iv p3, iv p4, iv p5, iv ra, iv rb, iv ib, iv cb, iv ca0, iv ca1, iv cb0, iv cb1, iv (1 : Int32), .unset, .unset, .unset, .unset, .unset, .unset, .unset, .unset] [(.int p5)])) _
      refine XS.bipush X0.here hx rfl (hb hby at_110) ?_
      show Steps p.tables e below (s₁.setTop (mkF m 112 #[iv p0, iv p1, iv p2, iv p3, iv p4, iv p5, iv ra, iv rb, iv ib, iv cb, iv ca0, iv ca1, iv cb0, iv cb1, iv (1 : Int32), .unset, .unset, .unset, .unset, .unset, .unset, .unset, .unset] [(.int (16 : Int32)), (.int p5)])) _
      refine XS.iand X0.here hx rfl (hb hby at_112) rfl ?_
      exact kt
    by_cases hc113 : (p5 &&& (16 : Int32)) = (0 : Int32)
    · have pre124 : ∀ t, Steps p.tables e below (s₁.setTop (mkF m 129 #[iv p0, iv p1, iv p2, iv p3, iv p4, iv p5, iv ra, iv rb, iv ib, iv cb, iv ca0, iv ca1, iv cb0, iv cb1, iv (1 : Int32), iv (0 : Int32), .unset, .unset, .unset, .unset, .unset, .unset, .unset] [(.int ca1), (.int ca0), (.int (1 : Int32))])) t → Steps p.tables e below (s₁.setTop (entryFrame m #[(.int p0), (.int p1), (.int p2), (.int p3), (.int p4), (.int p5)] maxLocals)) t := by
        intro t kt
        refine pre123 _ ?_
        show Steps p.tables e below (s₁.setTop (mkF m 113 #[iv p0, iv p1, iv p2, iv p3, iv p4, iv p5, iv ra, iv rb, iv ib, iv cb, iv ca0, iv ca1, iv cb0, iv cb1, iv (1 : Int32), .unset, .unset, .unset, .unset, .unset, .unset, .unset, .unset] [(.int (p5 &&& (16 : Int32)))])) _
        refine XS.ifYes X0.here hx rfl (pc0 := 113) (pc' := 120) rfl (hb hby at_113) rfl ((if0 _ _).trans (teq hc113).1) (by decide) (by decide) ?_
        show Steps p.tables e below (s₁.setTop (mkF m 120 #[iv p0, iv p1, iv p2, iv p3, iv p4, iv p5, iv ra, iv rb, iv ib, iv cb, iv ca0, iv ca1, iv cb0, iv cb1, iv (1 : Int32), .unset, .unset, .unset, .unset, .unset, .unset, .unset, .unset] [])) _
        refine XS.iconst X0.here hx rfl (hb hby at_120) ?_
        show Steps p.tables e below (s₁.setTop (mkF m 121 #[iv p0, iv p1, iv p2, iv p3, iv p4, iv p5, iv ra, iv rb, iv ib, iv cb, iv ca0, iv ca1, iv cb0, iv cb1, iv (1 : Int32), .unset, .unset, .unset, .unset, .unset, .unset, .unset, .unset] [(.int (0 : Int32))])) _
        refine XS.istore X0.here hx rfl (hb hby at_121) rfl (l' := #[iv p0, iv p1, iv p2, iv p3, iv p4, iv p5, iv ra, iv rb, iv ib, iv cb, iv ca0, iv ca1, iv cb0, iv cb1, iv (1 : Int32), iv (0 : Int32), .unset, .unset, .unset, .unset, .unset, .unset, .unset]) rfl ?_
        show Steps p.tables e below (s₁.setTop (mkF m 123 #[iv p0, iv p1, iv p2, iv p3, iv p4, iv p5, iv ra, iv rb, iv ib, iv cb, iv ca0, iv ca1, iv cb0, iv cb1, iv (1 : Int32), iv (0 : Int32), .unset, .unset, .unset, .unset, .unset, .unset, .unset] [])) _
        refine XS.iload X0.here hx rfl (hb hby at_123) rfl ?_
        show Steps p.tables e below (s₁.setTop (mkF m 125 #[iv p0, iv p1, iv p2, iv p3, iv p4, iv p5, iv ra, iv rb, iv ib, iv cb, iv ca0, iv ca1, iv cb0, iv cb1, iv (1 : Int32), iv (0 : Int32), .unset, .unset, .unset, .unset, .unset, .unset, .unset] [(.int (1 : Int32))])) _
        refine XS.iload X0.here hx rfl (hb hby at_125) rfl ?_
        show Steps p.tables e below (s₁.setTop (mkF m 127 #[iv p0, iv p1, iv p2, iv p3, iv p4, iv p5, iv ra, iv rb, iv ib, iv cb, iv ca0, iv ca1, iv cb0, iv cb1, iv (1 : Int32), iv (0 : Int32), .unset, .unset, .unset, .unset, .unset, .unset, .unset] [(.int ca0), (.int (1 : Int32))])) _
        refine XS.iload X0.here hx rfl (hb hby at_127) rfl ?_
        exact kt
      obtain ⟨_, _, ⟨T125, L125, k125, n125⟩, -, X125, ⟨Lc125, hQ125, l125, y125, z125⟩, st125⟩ := Jvm.LawKit.callS X0 hx (y := (⟨"com/example/fair_witness/fairwitness/verifier/DecodingFailureEqualsPinLaw", "text", "(ZCC)Ljava/lang/String;"⟩ : MethodName)) hown (mvT hZ (hw _ (List.mem_of_getElem? (i := 0) rfl))) (mvT hZ (hw _ (List.mem_of_getElem? (i := 1) rfl))) (mvT hZ (hw _ (List.mem_of_getElem? (i := 2) rfl))) (mvT hZ (hw _ (List.mem_of_getElem? (i := 3) rfl))) (by decide) (backOf (W := 0) (rm1s l Z a0 hw [] ca0 ca1 cs h0 n0 (Nat.le_trans Z0 (Keep.refl h0 []).1) (O0.keep (Keep.refl h0 []) all0) S_cs hcs (h_ca0 ▸ own_ch _).1) hZ (hw _ (List.mem_of_getElem? (i := 3) rfl)) (hw _ (List.mem_of_getElem? (i := 2) rfl)) (by decide) (by decide)) (g := (mkF m 129 #[iv p0, iv p1, iv p2, iv p3, iv p4, iv p5, iv ra, iv rb, iv ib, iv cb, iv ca0, iv ca1, iv cb0, iv cb1, iv (1 : Int32), iv (0 : Int32), .unset, .unset, .unset, .unset, .unset, .unset, .unset] [(.int ca1), (.int ca0), (.int (1 : Int32))])) rfl (by rw [hml]; rfl) (argsL := [(.int (1 : Int32)), (.int ca0), (.int ca1)]) (rest := []) (lenOf pd16 rfl) rfl (by show 2 * 0 + _ ≤ _; exact Nat.le_of_eq rfl) (hb hby at_129) (fun _ _ => ⟨rfl, e0, (by decide : 0 + 2 ≤ _), (by decide : 0 + 5 ≤ _)⟩)
      dsimp only [Pt.U, Pt.locs, Pt.cells, Pt.slots] at X125 l125 y125 z125 st125 hQ125
      subst l125 y125 z125
      obtain ⟨x125, y125, ky125, rfl, N125q, Kc125, hx125, hy125, Ex125, Fv125, Fc125, Vy125⟩ := hQ125
      have N125 := Fr.app N0 N125q
      have K125 : Keep h0 T125.heap [] := (Keep.refl h0 []).trans Kc125 all0
      have g_x125 : n0 ≤ x125 := Nat.le_trans (Nat.le_trans Z0 (Keep.refl h0 []).1) hx125
      have sz_x125 : h0.size ≤ x125 := Nat.le_trans (Keep.refl h0 []).1 hx125
      have g_y125 : n0 ≤ y125 := Nat.le_trans (Nat.le_trans Z0 (Keep.refl h0 []).1) hy125
      have sz_y125 : h0.size ≤ y125 := Nat.le_trans (Keep.refl h0 []).1 hy125
      have pre126 : ∀ t, Steps p.tables e below (T125.setTop (mkF m 140 #[iv p0, iv p1, iv p2, iv p3, iv p4, iv p5, iv ra, iv rb, iv ib, iv cb, iv ca0, iv ca1, iv cb0, iv cb1, iv (1 : Int32), iv (0 : Int32), rv x125, .unset, .unset, .unset, .unset, .unset, .unset] [(.int cb1), (.int cb0), (.int (0 : Int32))])) t → Steps p.tables e below (s₁.setTop (entryFrame m #[(.int p0), (.int p1), (.int p2), (.int p3), (.int p4), (.int p5)] maxLocals)) t := by
        intro t kt
        refine pre124 _ ?_
        show Steps p.tables e below (s₁.setTop (mkF m 129 #[iv p0, iv p1, iv p2, iv p3, iv p4, iv p5, iv ra, iv rb, iv ib, iv cb, iv ca0, iv ca1, iv cb0, iv cb1, iv (1 : Int32), iv (0 : Int32), .unset, .unset, .unset, .unset, .unset, .unset, .unset] [(.int ca1), (.int ca0), (.int (1 : Int32))])) _
        refine st125 _ ?_
        show Steps p.tables e below (T125.setTop (mkF m 132 #[iv p0, iv p1, iv p2, iv p3, iv p4, iv p5, iv ra, iv rb, iv ib, iv cb, iv ca0, iv ca1, iv cb0, iv cb1, iv (1 : Int32), iv (0 : Int32), .unset, .unset, .unset, .unset, .unset, .unset, .unset] [(.ref x125)])) _
        refine XS.astore X125.here hx rfl (hb hby at_132) rfl rfl (l' := #[iv p0, iv p1, iv p2, iv p3, iv p4, iv p5, iv ra, iv rb, iv ib, iv cb, iv ca0, iv ca1, iv cb0, iv cb1, iv (1 : Int32), iv (0 : Int32), rv x125, .unset, .unset, .unset, .unset, .unset, .unset]) rfl ?_
        show Steps p.tables e below (T125.setTop (mkF m 134 #[iv p0, iv p1, iv p2, iv p3, iv p4, iv p5, iv ra, iv rb, iv ib, iv cb, iv ca0, iv ca1, iv cb0, iv cb1, iv (1 : Int32), iv (0 : Int32), rv x125, .unset, .unset, .unset, .unset, .unset, .unset] [])) _
        refine XS.iload X125.here hx rfl (hb hby at_134) rfl ?_
        show Steps p.tables e below (T125.setTop (mkF m 136 #[iv p0, iv p1, iv p2, iv p3, iv p4, iv p5, iv ra, iv rb, iv ib, iv cb, iv ca0, iv ca1, iv cb0, iv cb1, iv (1 : Int32), iv (0 : Int32), rv x125, .unset, .unset, .unset, .unset, .unset, .unset] [(.int (0 : Int32))])) _
        refine XS.iload X125.here hx rfl (hb hby at_136) rfl ?_
        show Steps p.tables e below (T125.setTop (mkF m 138 #[iv p0, iv p1, iv p2, iv p3, iv p4, iv p5, iv ra, iv rb, iv ib, iv cb, iv ca0, iv ca1, iv cb0, iv cb1, iv (1 : Int32), iv (0 : Int32), rv x125, .unset, .unset, .unset, .unset, .unset, .unset] [(.int cb0), (.int (0 : Int32))])) _
        refine XS.iload X125.here hx rfl (hb hby at_138) rfl ?_
        exact kt
      obtain ⟨_, _, ⟨T127, L127, k127, n127⟩, -, X127, ⟨Lc127, hQ127, l127, y127, z127⟩, st127⟩ := Jvm.LawKit.callS X125 hx (y := (⟨"com/example/fair_witness/fairwitness/verifier/DecodingFailureEqualsPinLaw", "text", "(ZCC)Ljava/lang/String;"⟩ : MethodName)) hown (mvT hZ (hw _ (List.mem_of_getElem? (i := 0) rfl))) (mvT hZ (hw _ (List.mem_of_getElem? (i := 1) rfl))) (mvT hZ (hw _ (List.mem_of_getElem? (i := 2) rfl))) (mvT hZ (hw _ (List.mem_of_getElem? (i := 3) rfl))) (by decide) (backOf (W := 0) (rm1l l Z a0 hw [] cb0 cb1 cs T125.heap n0 (Nat.le_trans Z0 K125.1) (O0.keep K125 all0) S_cs hcs (h_cb0 ▸ own_ch _).1 (h_cb1 ▸ own_ch _).1 (h_cb0 ▸ own_ch _).2.1 (h_cb1 ▸ own_ch _).2.1) hZ (hw _ (List.mem_of_getElem? (i := 3) rfl)) (hw _ (List.mem_of_getElem? (i := 2) rfl)) (by decide) (by decide)) (g := (mkF m 140 #[iv p0, iv p1, iv p2, iv p3, iv p4, iv p5, iv ra, iv rb, iv ib, iv cb, iv ca0, iv ca1, iv cb0, iv cb1, iv (1 : Int32), iv (0 : Int32), rv x125, .unset, .unset, .unset, .unset, .unset, .unset] [(.int cb1), (.int cb0), (.int (0 : Int32))])) rfl (by rw [hml]; rfl) (argsL := [(.int (0 : Int32)), (.int cb0), (.int cb1)]) (rest := []) (lenOf pd16 rfl) rfl (by show 2 * 0 + _ ≤ _; exact Nat.le_of_eq rfl) (hb hby at_140) (fun _ _ => ⟨rfl, rfl, (by decide : 2 + 3 ≤ _), (by decide : 5 + 8 ≤ _)⟩)
      dsimp only [Pt.U, Pt.locs, Pt.cells, Pt.slots] at X127 l127 y127 z127 st127 hQ127
      subst l127 y127 z127
      obtain ⟨x127, y127, ky127, rfl, N127q, Kc127, hx127, hy127, Ex127, Fv127, Fc127, Vy127⟩ := hQ127
      have N127 := Fr.app N125 N127q
      have K127 : Keep h0 T127.heap [] := K125.trans Kc127 all0
      have g_x127 : n0 ≤ x127 := Nat.le_trans (Nat.le_trans Z0 K125.1) hx127
      have sz_x127 : h0.size ≤ x127 := Nat.le_trans K125.1 hx127
      have g_y127 : n0 ≤ y127 := Nat.le_trans (Nat.le_trans Z0 K125.1) hy127
      have sz_y127 : h0.size ≤ y127 := Nat.le_trans K125.1 hy127
      have ne_x125_x127 : x125 ≠ x127 := Nat.ne_of_lt (Nat.lt_of_lt_of_le Ex125.lt hx127)
      have pre128 : ∀ t, Steps p.tables e below (T127.setTop (mkF m 145 #[iv p0, iv p1, iv p2, iv p3, iv p4, iv p5, iv ra, iv rb, iv ib, iv cb, iv ca0, iv ca1, iv cb0, iv cb1, iv (1 : Int32), iv (0 : Int32), rv x125, rv x127, .unset, .unset, .unset, .unset, .unset] [])) t → Steps p.tables e below (s₁.setTop (entryFrame m #[(.int p0), (.int p1), (.int p2), (.int p3), (.int p4), (.int p5)] maxLocals)) t := by
        intro t kt
        refine pre126 _ ?_
        show Steps p.tables e below (T125.setTop (mkF m 140 #[iv p0, iv p1, iv p2, iv p3, iv p4, iv p5, iv ra, iv rb, iv ib, iv cb, iv ca0, iv ca1, iv cb0, iv cb1, iv (1 : Int32), iv (0 : Int32), rv x125, .unset, .unset, .unset, .unset, .unset, .unset] [(.int cb1), (.int cb0), (.int (0 : Int32))])) _
        refine st127 _ ?_
        show Steps p.tables e below (T127.setTop (mkF m 143 #[iv p0, iv p1, iv p2, iv p3, iv p4, iv p5, iv ra, iv rb, iv ib, iv cb, iv ca0, iv ca1, iv cb0, iv cb1, iv (1 : Int32), iv (0 : Int32), rv x125, .unset, .unset, .unset, .unset, .unset, .unset] [(.ref x127)])) _
        refine XS.astore X127.here hx rfl (hb hby at_143) rfl rfl (l' := #[iv p0, iv p1, iv p2, iv p3, iv p4, iv p5, iv ra, iv rb, iv ib, iv cb, iv ca0, iv ca1, iv cb0, iv cb1, iv (1 : Int32), iv (0 : Int32), rv x125, rv x127, .unset, .unset, .unset, .unset, .unset]) rfl ?_
        exact kt
      obtain ⟨T129, h129, X129, e129, E129, A129, D129, -, st129⟩ := newO X127 hx hZ hown (hw _ (List.mem_of_getElem? (i := 34) rfl)) (hw _ (List.mem_of_getElem? (i := 35) rfl)) (hw _ (List.mem_of_getElem? (i := 36) rfl)) rfl (g := (mkF m 145 #[iv p0, iv p1, iv p2, iv p3, iv p4, iv p5, iv ra, iv rb, iv ib, iv cb, iv ca0, iv ca1, iv cb0, iv cb1, iv (1 : Int32), iv (0 : Int32), rv x125, rv x127, .unset, .unset, .unset, .unset, .unset] [])) rfl (hb hby at_145) (by decide) (by decide)
      obtain ⟨b129, g129⟩ : ∃ z, z = T127.heap.size := ⟨_, rfl⟩
      rw [← g129] at A129 D129 st129
      have g_b129 : n0 ≤ b129 := Nat.le_trans (Nat.le_trans Z0 K127.1) (Nat.le_of_eq g129.symm)
      have sz_b129 : h0.size ≤ b129 := Nat.le_trans K127.1 (Nat.le_of_eq g129.symm)
      have F_reason_b129 : Fld Z h129 b129 "com/example/fair_witness/fairwitness/verifier/DecodingFailure" "reason" "Lcom/example/fair_witness/fairwitness/verifier/Reason;" .null := D129 (Or.inr (hw _ (List.mem_of_getElem? (i := 48) rfl))) (ty := (.object "com/example/fair_witness/fairwitness/verifier/Reason")) (by decide)
      have F_certificateIndex_b129 : Fld Z h129 b129 "com/example/fair_witness/fairwitness/verifier/DecodingFailure" "certificateIndex" "I" (.int (0 : Int32)) := D129 (Or.inr (hw _ (List.mem_of_getElem? (i := 50) rfl))) (ty := .int) (by decide)
      have F_detail_b129 : Fld Z h129 b129 "com/example/fair_witness/fairwitness/verifier/DecodingFailure" "detail" "Ljava/lang/String;" .null := D129 (Or.inr (hw _ (List.mem_of_getElem? (i := 52) rfl))) (ty := (.object "java/lang/String")) (by decide)
      have K129 : Keep h0 h129 [] := K127.ext E129
      have pre130 : ∀ t, Steps p.tables e below (T129.setTop (mkF m 151 #[iv p0, iv p1, iv p2, iv p3, iv p4, iv p5, iv ra, iv rb, iv ib, iv cb, iv ca0, iv ca1, iv cb0, iv cb1, iv (1 : Int32), iv (0 : Int32), rv x125, rv x127, .unset, .unset, .unset, .unset, .unset] [(.int ra), (.ref b129), (.ref b129)])) t → Steps p.tables e below (s₁.setTop (entryFrame m #[(.int p0), (.int p1), (.int p2), (.int p3), (.int p4), (.int p5)] maxLocals)) t := by
        intro t kt
        refine pre128 _ ?_
        show Steps p.tables e below (T127.setTop (mkF m 145 #[iv p0, iv p1, iv p2, iv p3, iv p4, iv p5, iv ra, iv rb, iv ib, iv cb, iv ca0, iv ca1, iv cb0, iv cb1, iv (1 : Int32), iv (0 : Int32), rv x125, rv x127, .unset, .unset, .unset, .unset, .unset] [])) _
        refine st129 _ ?_
        show Steps p.tables e below (T129.setTop (mkF m 148 #[iv p0, iv p1, iv p2, iv p3, iv p4, iv p5, iv ra, iv rb, iv ib, iv cb, iv ca0, iv ca1, iv cb0, iv cb1, iv (1 : Int32), iv (0 : Int32), rv x125, rv x127, .unset, .unset, .unset, .unset, .unset] [(.ref b129)])) _
        refine XS.dup X129.here hx rfl (hb hby at_148) rfl rfl ?_
        show Steps p.tables e below (T129.setTop (mkF m 149 #[iv p0, iv p1, iv p2, iv p3, iv p4, iv p5, iv ra, iv rb, iv ib, iv cb, iv ca0, iv ca1, iv cb0, iv cb1, iv (1 : Int32), iv (0 : Int32), rv x125, rv x127, .unset, .unset, .unset, .unset, .unset] [(.ref b129), (.ref b129)])) _
        refine XS.iload X129.here hx rfl (hb hby at_149) rfl ?_
        exact kt
      obtain ⟨_, _, ⟨T131, L131, k131, n131⟩, -, X131, ⟨Lc131, hQ131, l131, y131, z131⟩, st131⟩ := Jvm.LawKit.callS X129 hx (y := (⟨"com/example/fair_witness/fairwitness/verifier/DecodingFailureEqualsPinLaw", "reason", "(I)Lcom/example/fair_witness/fairwitness/verifier/Reason;"⟩ : MethodName)) hown (mvT hZ (hw _ (List.mem_of_getElem? (i := 37) rfl))) (mvT hZ (hw _ (List.mem_of_getElem? (i := 38) rfl))) (mvT hZ (hw _ (List.mem_of_getElem? (i := 2) rfl))) (mvT hZ (hw _ (List.mem_of_getElem? (i := 39) rfl))) (by decide) (backOf (W := 2) (rm8 l Z a0 hw [] ra aK aP aS aR h129 n0 (Nat.le_trans Z0 K129.1) (O0.keep K129 all0) S_KEY_DESCRIPTION_INVALID S_PROVISIONING_INFO_INVALID S_SIGNATURE_INVALID S_ROOT_NOT_TRUSTED) hZ (hw _ (List.mem_of_getElem? (i := 39) rfl)) (hw _ (List.mem_of_getElem? (i := 2) rfl)) (by decide) (by decide)) (g := (mkF m 151 #[iv p0, iv p1, iv p2, iv p3, iv p4, iv p5, iv ra, iv rb, iv ib, iv cb, iv ca0, iv ca1, iv cb0, iv cb1, iv (1 : Int32), iv (0 : Int32), rv x125, rv x127, .unset, .unset, .unset, .unset, .unset] [(.int ra), (.ref b129), (.ref b129)])) rfl (by rw [hml]; rfl) (argsL := [(.int ra)]) (rest := [(.ref b129), (.ref b129)]) (lenOf pd17 rfl) rfl (by show 2 * 0 + _ ≤ _; exact Nat.le_of_eq rfl) (hb hby at_151) (fun _ _ => ⟨rfl, e129, (by decide : 6 + 0 ≤ _), (by decide : 16 + 0 ≤ _)⟩)
      dsimp only [Pt.U, Pt.locs, Pt.cells, Pt.slots] at X131 l131 y131 z131 st131 hQ131
      subst l131 y131 z131
      obtain ⟨rfl, N131q, hh131⟩ := hQ131
      have N131 := Fr.app N127 N131q
      have pre132 : ∀ t, Steps p.tables e below (T131.setTop (mkF m 157 #[iv p0, iv p1, iv p2, iv p3, iv p4, iv p5, iv ra, iv rb, iv ib, iv cb, iv ca0, iv ca1, iv cb0, iv cb1, iv (1 : Int32), iv (0 : Int32), rv x125, rv x127, .unset, .unset, .unset, .unset, .unset] [(.ref x125), (.int p1), (.ref (own_rs aK aP aS aR ra)), (.ref b129), (.ref b129)])) t → Steps p.tables e below (s₁.setTop (entryFrame m #[(.int p0), (.int p1), (.int p2), (.int p3), (.int p4), (.int p5)] maxLocals)) t := by
        intro t kt
        refine pre130 _ ?_
        show Steps p.tables e below (T129.setTop (mkF m 151 #[iv p0, iv p1, iv p2, iv p3, iv p4, iv p5, iv ra, iv rb, iv ib, iv cb, iv ca0, iv ca1, iv cb0, iv cb1, iv (1 : Int32), iv (0 : Int32), rv x125, rv x127, .unset, .unset, .unset, .unset, .unset] [(.int ra), (.ref b129), (.ref b129)])) _
        refine st131 _ ?_
        show Steps p.tables e below (T131.setTop (mkF m 154 #[iv p0, iv p1, iv p2, iv p3, iv p4, iv p5, iv ra, iv rb, iv ib, iv cb, iv ca0, iv ca1, iv cb0, iv cb1, iv (1 : Int32), iv (0 : Int32), rv x125, rv x127, .unset, .unset, .unset, .unset, .unset] [(.ref (own_rs aK aP aS aR ra)), (.ref b129), (.ref b129)])) _
        refine XS.iloadN X131.here hx rfl (hb hby at_154) rfl ?_
        show Steps p.tables e below (T131.setTop (mkF m 155 #[iv p0, iv p1, iv p2, iv p3, iv p4, iv p5, iv ra, iv rb, iv ib, iv cb, iv ca0, iv ca1, iv cb0, iv cb1, iv (1 : Int32), iv (0 : Int32), rv x125, rv x127, .unset, .unset, .unset, .unset, .unset] [(.int p1), (.ref (own_rs aK aP aS aR ra)), (.ref b129), (.ref b129)])) _
        refine XS.aload X131.here hx rfl (hb hby at_155) rfl rfl ?_
        exact kt
      obtain ⟨_, _, ⟨T133, L133, k133, n133⟩, -, X133, ⟨Lc133, hQ133, l133, y133, z133⟩, st133⟩ := X131.specialBack hx (y := (⟨"com/example/fair_witness/fairwitness/verifier/DecodingFailure", "<init>", "(Lcom/example/fair_witness/fairwitness/verifier/Reason;ILjava/lang/String;)V"⟩ : MethodName)) rfl hown (mvT hZ (hw _ (List.mem_of_getElem? (i := 43) rfl))) (mvT hZ (hw _ (List.mem_of_getElem? (i := 44) rfl))) (mvT hZ (hw _ (List.mem_of_getElem? (i := 45) rfl))) (by decide) (backOf (W := 1) (rm9 l Z a0 hw [] b129 (own_rs aK aP aS aR ra) p1 x125 h129 n0 (Nat.le_trans Z0 K129.1) F_reason_b129 F_certificateIndex_b129 F_detail_b129 A129 g_b129) hZ (hw _ (List.mem_of_getElem? (i := 45) rfl)) (hw _ (List.mem_of_getElem? (i := 36) rfl)) (by decide) (by decide)) (g := (mkF m 157 #[iv p0, iv p1, iv p2, iv p3, iv p4, iv p5, iv ra, iv rb, iv ib, iv cb, iv ca0, iv ca1, iv cb0, iv cb1, iv (1 : Int32), iv (0 : Int32), rv x125, rv x127, .unset, .unset, .unset, .unset, .unset] [(.ref x125), (.int p1), (.ref (own_rs aK aP aS aR ra)), (.ref b129), (.ref b129)])) rfl (by rw [hml]; rfl) (Steps.refl _) (a := b129) (argsL := [(.ref (own_rs aK aP aS aR ra)), (.int p1), (.ref x125)]) (rest := [(.ref b129)]) (lenOf pd18 rfl) rfl (by show 2 * 0 + _ ≤ _; exact Nat.le_of_eq rfl) (hb hby at_157) (fun _ _ => ⟨rfl, hh131, (by decide : 6 + 0 ≤ _), (by decide : 16 + 0 ≤ _)⟩)
      dsimp only [Pt.U, Pt.locs, Pt.cells, Pt.slots] at X133 l133 y133 z133 st133 hQ133
      subst l133 y133 z133
      obtain ⟨rfl, N133q, Kc133, F0_133, F1_133, F2_133⟩ := hQ133
      have N133 := Fr.app N131 N133q
      have K133 : Keep h0 T133.heap [] := K129.trans Kc133 (allS (Or.inr sz_b129) all0)
      have pre134 : ∀ t, Steps p.tables e below (T133.setTop (mkF m 172 #[iv p0, iv p1, iv p2, iv p3, iv p4, iv p5, iv ra, iv rb, iv ib, iv cb, iv ca0, iv ca1, iv cb0, iv cb1, iv (1 : Int32), iv (0 : Int32), rv x125, rv x127, rv b129, iv (((p5.toUInt32 >>> ((5 : Int32) &&& 31).toUInt32).toInt32) &&& (3 : Int32)), .unset, .unset, .unset] [(.int (((p5.toUInt32 >>> ((5 : Int32) &&& 31).toUInt32).toInt32) &&& (3 : Int32)))])) t → Steps p.tables e below (s₁.setTop (entryFrame m #[(.int p0), (.int p1), (.int p2), (.int p3), (.int p4), (.int p5)] maxLocals)) t := by
        intro t kt
        refine pre132 _ ?_
        show Steps p.tables e below (T131.setTop (mkF m 157 #[iv p0, iv p1, iv p2, iv p3, iv p4, iv p5, iv ra, iv rb, iv ib, iv cb, iv ca0, iv ca1, iv cb0, iv cb1, iv (1 : Int32), iv (0 : Int32), rv x125, rv x127, .unset, .unset, .unset, .unset, .unset] [(.ref x125), (.int p1), (.ref (own_rs aK aP aS aR ra)), (.ref b129), (.ref b129)])) _
        refine st133.trans ?_
        show Steps p.tables e below (T133.setTop (mkF m 160 #[iv p0, iv p1, iv p2, iv p3, iv p4, iv p5, iv ra, iv rb, iv ib, iv cb, iv ca0, iv ca1, iv cb0, iv cb1, iv (1 : Int32), iv (0 : Int32), rv x125, rv x127, .unset, .unset, .unset, .unset, .unset] [(.ref b129)])) _
        refine XS.astore X133.here hx rfl (hb hby at_160) rfl rfl (l' := #[iv p0, iv p1, iv p2, iv p3, iv p4, iv p5, iv ra, iv rb, iv ib, iv cb, iv ca0, iv ca1, iv cb0, iv cb1, iv (1 : Int32), iv (0 : Int32), rv x125, rv x127, rv b129, .unset, .unset, .unset, .unset]) rfl ?_
        show Steps p.tables e below (T133.setTop (mkF m 162 #[iv p0, iv p1, iv p2, iv p3, iv p4, iv p5, iv ra, iv rb, iv ib, iv cb, iv ca0, iv ca1, iv cb0, iv cb1, iv (1 : Int32), iv (0 : Int32), rv x125, rv x127, rv b129, .unset, .unset, .unset, .unset] [])) _
        refine XS.iload X133.here hx rfl (hb hby at_162) rfl ?_
        show Steps p.tables e below (T133.setTop (mkF m 164 #[iv p0, iv p1, iv p2, iv p3, iv p4, iv p5, iv ra, iv rb, iv ib, iv cb, iv ca0, iv ca1, iv cb0, iv cb1, iv (1 : Int32), iv (0 : Int32), rv x125, rv x127, rv b129, .unset, .unset, .unset, .unset] [(.int p5)])) _
        refine XS.iconst X133.here hx rfl (hb hby at_164) ?_
        show Steps p.tables e below (T133.setTop (mkF m 165 #[iv p0, iv p1, iv p2, iv p3, iv p4, iv p5, iv ra, iv rb, iv ib, iv cb, iv ca0, iv ca1, iv cb0, iv cb1, iv (1 : Int32), iv (0 : Int32), rv x125, rv x127, rv b129, .unset, .unset, .unset, .unset] [(.int (5 : Int32)), (.int p5)])) _
        refine XS.iushr X133.here hx rfl (hb hby at_165) rfl ?_
        show Steps p.tables e below (T133.setTop (mkF m 166 #[iv p0, iv p1, iv p2, iv p3, iv p4, iv p5, iv ra, iv rb, iv ib, iv cb, iv ca0, iv ca1, iv cb0, iv cb1, iv (1 : Int32), iv (0 : Int32), rv x125, rv x127, rv b129, .unset, .unset, .unset, .unset] [(.int ((p5.toUInt32 >>> ((5 : Int32) &&& 31).toUInt32).toInt32))])) _
        refine XS.iconst X133.here hx rfl (hb hby at_166) ?_
        show Steps p.tables e below (T133.setTop (mkF m 167 #[iv p0, iv p1, iv p2, iv p3, iv p4, iv p5, iv ra, iv rb, iv ib, iv cb, iv ca0, iv ca1, iv cb0, iv cb1, iv (1 : Int32), iv (0 : Int32), rv x125, rv x127, rv b129, .unset, .unset, .unset, .unset] [(.int (3 : Int32)), (.int ((p5.toUInt32 >>> ((5 : Int32) &&& 31).toUInt32).toInt32))])) _
        refine XS.iand X133.here hx rfl (hb hby at_167) rfl ?_
        show Steps p.tables e below (T133.setTop (mkF m 168 #[iv p0, iv p1, iv p2, iv p3, iv p4, iv p5, iv ra, iv rb, iv ib, iv cb, iv ca0, iv ca1, iv cb0, iv cb1, iv (1 : Int32), iv (0 : Int32), rv x125, rv x127, rv b129, .unset, .unset, .unset, .unset] [(.int (((p5.toUInt32 >>> ((5 : Int32) &&& 31).toUInt32).toInt32) &&& (3 : Int32)))])) _
        refine XS.istore X133.here hx rfl (hb hby at_168) rfl (l' := #[iv p0, iv p1, iv p2, iv p3, iv p4, iv p5, iv ra, iv rb, iv ib, iv cb, iv ca0, iv ca1, iv cb0, iv cb1, iv (1 : Int32), iv (0 : Int32), rv x125, rv x127, rv b129, iv (((p5.toUInt32 >>> ((5 : Int32) &&& 31).toUInt32).toInt32) &&& (3 : Int32)), .unset, .unset, .unset]) rfl ?_
        show Steps p.tables e below (T133.setTop (mkF m 170 #[iv p0, iv p1, iv p2, iv p3, iv p4, iv p5, iv ra, iv rb, iv ib, iv cb, iv ca0, iv ca1, iv cb0, iv cb1, iv (1 : Int32), iv (0 : Int32), rv x125, rv x127, rv b129, iv (((p5.toUInt32 >>> ((5 : Int32) &&& 31).toUInt32).toInt32) &&& (3 : Int32)), .unset, .unset, .unset] [])) _
        refine XS.iload X133.here hx rfl (hb hby at_170) rfl ?_
        exact kt
      by_cases hc172 : (((p5.toUInt32 >>> ((5 : Int32) &&& 31).toUInt32).toInt32) &&& (3 : Int32)) = (0 : Int32)
      · have pre135 : ∀ t, Steps p.tables e below (T133.setTop (mkF m 178 #[iv p0, iv p1, iv p2, iv p3, iv p4, iv p5, iv ra, iv rb, iv ib, iv cb, iv ca0, iv ca1, iv cb0, iv cb1, iv (1 : Int32), iv (0 : Int32), rv x125, rv x127, rv b129, iv (((p5.toUInt32 >>> ((5 : Int32) &&& 31).toUInt32).toInt32) &&& (3 : Int32)), .unset, .unset, .unset] [.null, (.ref b129)])) t → Steps p.tables e below (s₁.setTop (entryFrame m #[(.int p0), (.int p1), (.int p2), (.int p3), (.int p4), (.int p5)] maxLocals)) t := by
          intro t kt
          refine pre134 _ ?_
          show Steps p.tables e below (T133.setTop (mkF m 172 #[iv p0, iv p1, iv p2, iv p3, iv p4, iv p5, iv ra, iv rb, iv ib, iv cb, iv ca0, iv ca1, iv cb0, iv cb1, iv (1 : Int32), iv (0 : Int32), rv x125, rv x127, rv b129, iv (((p5.toUInt32 >>> ((5 : Int32) &&& 31).toUInt32).toInt32) &&& (3 : Int32)), .unset, .unset, .unset] [(.int (((p5.toUInt32 >>> ((5 : Int32) &&& 31).toUInt32).toInt32) &&& (3 : Int32)))])) _
          refine XS.ifNo X133.here hx rfl (hb hby at_172) rfl ((if0 _ _).trans (teq hc172).2) ?_
          show Steps p.tables e below (T133.setTop (mkF m 175 #[iv p0, iv p1, iv p2, iv p3, iv p4, iv p5, iv ra, iv rb, iv ib, iv cb, iv ca0, iv ca1, iv cb0, iv cb1, iv (1 : Int32), iv (0 : Int32), rv x125, rv x127, rv b129, iv (((p5.toUInt32 >>> ((5 : Int32) &&& 31).toUInt32).toInt32) &&& (3 : Int32)), .unset, .unset, .unset] [])) _
          refine XS.aload X133.here hx rfl (hb hby at_175) rfl rfl ?_
          show Steps p.tables e below (T133.setTop (mkF m 177 #[iv p0, iv p1, iv p2, iv p3, iv p4, iv p5, iv ra, iv rb, iv ib, iv cb, iv ca0, iv ca1, iv cb0, iv cb1, iv (1 : Int32), iv (0 : Int32), rv x125, rv x127, rv b129, iv (((p5.toUInt32 >>> ((5 : Int32) &&& 31).toUInt32).toInt32) &&& (3 : Int32)), .unset, .unset, .unset] [(.ref b129)])) _
          refine XS.aconstNull X133.here hx rfl (hb hby at_177) ?_
          exact kt
        obtain ⟨cq136, kq136, q136a, q136b, q136c⟩ := isOf hZ rfl (A129.keep Kc133)
        obtain ⟨_, _, ⟨T136, L136, k136, n136⟩, -, X136, ⟨Lc136, hQ136, l136, y136, z136⟩, st136⟩ := X133.virtualBack hx (y := (⟨"com/example/fair_witness/fairwitness/verifier/DecodingFailure", "equals", "(Ljava/lang/Object;)Z"⟩ : MethodName)) (z := (⟨"com/example/fair_witness/fairwitness/verifier/DecodingFailure", "equals", "(Ljava/lang/Object;)Z"⟩ : MethodName)) hown (mvT hZ (hw _ (List.mem_of_getElem? (i := 53) rfl))) (mvT hZ (hw _ (List.mem_of_getElem? (i := 54) rfl))) (notFace_of_selects (args := #[]) (mvT hZ (hw _ (List.mem_of_getElem? (i := 56) rfl)))) (mvT hZ (hw _ (List.mem_of_getElem? (i := 56) rfl))) (mvT hZ (hw _ (List.mem_of_getElem? (i := 55) rfl))) (by decide) (backOf (W := 0) (rm10null l Z a0 hw [] b129 T133.heap n0 (Nat.le_trans Z0 K133.1)) hZ (hw _ (List.mem_of_getElem? (i := 57) rfl)) (hw _ (List.mem_of_getElem? (i := 36) rfl)) (by decide) (by decide)) q136a q136c (g := (mkF m 178 #[iv p0, iv p1, iv p2, iv p3, iv p4, iv p5, iv ra, iv rb, iv ib, iv cb, iv ca0, iv ca1, iv cb0, iv cb1, iv (1 : Int32), iv (0 : Int32), rv x125, rv x127, rv b129, iv (((p5.toUInt32 >>> ((5 : Int32) &&& 31).toUInt32).toInt32) &&& (3 : Int32)), .unset, .unset, .unset] [.null, (.ref b129)])) rfl (by rw [hml]; rfl) (Steps.refl _) (argsL := [.null]) (rest := []) (lenOf pd15 rfl) rfl (by show 2 * 0 + _ ≤ _; exact Nat.le_of_eq rfl) (hb hby at_178) (fun _ _ => ⟨rfl, rfl, (by decide : 6 + 0 ≤ _), (by decide : 16 + 0 ≤ _)⟩)
        dsimp only [Pt.U, Pt.locs, Pt.cells, Pt.slots] at X136 l136 y136 z136 st136 hQ136
        subst l136 y136 z136
        obtain ⟨rfl, N136q, hh136⟩ := hQ136
        have N136 := Fr.app N133 N136q
        have pre137 : ∀ t, Steps p.tables e below (T136.setTop (mkF m 189 #[iv p0, iv p1, iv p2, iv p3, iv p4, iv p5, iv ra, iv rb, iv ib, iv cb, iv ca0, iv ca1, iv cb0, iv cb1, iv (1 : Int32), iv (0 : Int32), rv x125, rv x127, rv b129, iv (((p5.toUInt32 >>> ((5 : Int32) &&& 31).toUInt32).toInt32) &&& (3 : Int32)), .unset, .unset, .unset] [(.int (1 : Int32))])) t → Steps p.tables e below (s₁.setTop (entryFrame m #[(.int p0), (.int p1), (.int p2), (.int p3), (.int p4), (.int p5)] maxLocals)) t := by
          intro t kt
          refine pre135 _ ?_
          show Steps p.tables e below (T133.setTop (mkF m 178 #[iv p0, iv p1, iv p2, iv p3, iv p4, iv p5, iv ra, iv rb, iv ib, iv cb, iv ca0, iv ca1, iv cb0, iv cb1, iv (1 : Int32), iv (0 : Int32), rv x125, rv x127, rv b129, iv (((p5.toUInt32 >>> ((5 : Int32) &&& 31).toUInt32).toInt32) &&& (3 : Int32)), .unset, .unset, .unset] [.null, (.ref b129)])) _
          refine st136.trans ?_
          show Steps p.tables e below (T136.setTop (mkF m 181 #[iv p0, iv p1, iv p2, iv p3, iv p4, iv p5, iv ra, iv rb, iv ib, iv cb, iv ca0, iv ca1, iv cb0, iv cb1, iv (1 : Int32), iv (0 : Int32), rv x125, rv x127, rv b129, iv (((p5.toUInt32 >>> ((5 : Int32) &&& 31).toUInt32).toInt32) &&& (3 : Int32)), .unset, .unset, .unset] [(.int (0 : Int32))])) _
          refine XS.ifNo X136.here hx rfl (hb hby at_181) rfl ((if0 _ _).trans (teq (by decide)).2) ?_
          show Steps p.tables e below (T136.setTop (mkF m 184 #[iv p0, iv p1, iv p2, iv p3, iv p4, iv p5, iv ra, iv rb, iv ib, iv cb, iv ca0, iv ca1, iv cb0, iv cb1, iv (1 : Int32), iv (0 : Int32), rv x125, rv x127, rv b129, iv (((p5.toUInt32 >>> ((5 : Int32) &&& 31).toUInt32).toInt32) &&& (3 : Int32)), .unset, .unset, .unset] [])) _
          refine XS.iconst X136.here hx rfl (hb hby at_184) ?_
          show Steps p.tables e below (T136.setTop (mkF m 185 #[iv p0, iv p1, iv p2, iv p3, iv p4, iv p5, iv ra, iv rb, iv ib, iv cb, iv ca0, iv ca1, iv cb0, iv cb1, iv (1 : Int32), iv (0 : Int32), rv x125, rv x127, rv b129, iv (((p5.toUInt32 >>> ((5 : Int32) &&& 31).toUInt32).toInt32) &&& (3 : Int32)), .unset, .unset, .unset] [(.int (1 : Int32))])) _
          refine XS.goto X136.here hx rfl (pc0 := 185) (pc' := 189) rfl (hb hby at_185) (by decide) (by decide) ?_
          exact kt
        obtain ⟨fs, hr, hrun, hended, hW, hsame⟩ := X136.leave (v := some (.int (1 : Int32))) (fun h => by rw [Bd.returns] at h; cases h)
        refine ⟨_, _, pre137 _ ?_, hrun, hended, _, _, rfl, ?_, ⟨_, rfl⟩, hW, hsame.mono (by decide) (by decide)⟩
        · show Steps p.tables e below (T136.setTop (mkF m 189 #[iv p0, iv p1, iv p2, iv p3, iv p4, iv p5, iv ra, iv rb, iv ib, iv cb, iv ca0, iv ca1, iv cb0, iv cb1, iv (1 : Int32), iv (0 : Int32), rv x125, rv x127, rv b129, iv (((p5.toUInt32 >>> ((5 : Int32) &&& 31).toUInt32).toInt32) &&& (3 : Int32)), .unset, .unset, .unset] [(.int (1 : Int32))])) _
          exact retN X136 hx (t := .boolean) Bd.returns (by simp) (hb hby at_189) hr
        · show Q0 Z p0 p1 p2 p3 p4 p5 aK aP aS aR cs h0 n0 _ T136.heap _
          rw [hh136]
          exact ⟨rfl, N136⟩
      · have pre138 : ∀ t, Steps p.tables e below (T133.setTop (mkF m 193 #[iv p0, iv p1, iv p2, iv p3, iv p4, iv p5, iv ra, iv rb, iv ib, iv cb, iv ca0, iv ca1, iv cb0, iv cb1, iv (1 : Int32), iv (0 : Int32), rv x125, rv x127, rv b129, iv (((p5.toUInt32 >>> ((5 : Int32) &&& 31).toUInt32).toInt32) &&& (3 : Int32)), .unset, .unset, .unset] [(.int (1 : Int32)), (.int (((p5.toUInt32 >>> ((5 : Int32) &&& 31).toUInt32).toInt32) &&& (3 : Int32)))])) t → Steps p.tables e below (s₁.setTop (entryFrame m #[(.int p0), (.int p1), (.int p2), (.int p3), (.int p4), (.int p5)] maxLocals)) t := by
          intro t kt
          refine pre134 _ ?_
          show Steps p.tables e below (T133.setTop (mkF m 172 #[iv p0, iv p1, iv p2, iv p3, iv p4, iv p5, iv ra, iv rb, iv ib, iv cb, iv ca0, iv ca1, iv cb0, iv cb1, iv (1 : Int32), iv (0 : Int32), rv x125, rv x127, rv b129, iv (((p5.toUInt32 >>> ((5 : Int32) &&& 31).toUInt32).toInt32) &&& (3 : Int32)), .unset, .unset, .unset] [(.int (((p5.toUInt32 >>> ((5 : Int32) &&& 31).toUInt32).toInt32) &&& (3 : Int32)))])) _
          refine XS.ifYes X133.here hx rfl (pc0 := 172) (pc' := 190) rfl (hb hby at_172) rfl ((if0 _ _).trans (feq hc172).2) (by decide) (by decide) ?_
          show Steps p.tables e below (T133.setTop (mkF m 190 #[iv p0, iv p1, iv p2, iv p3, iv p4, iv p5, iv ra, iv rb, iv ib, iv cb, iv ca0, iv ca1, iv cb0, iv cb1, iv (1 : Int32), iv (0 : Int32), rv x125, rv x127, rv b129, iv (((p5.toUInt32 >>> ((5 : Int32) &&& 31).toUInt32).toInt32) &&& (3 : Int32)), .unset, .unset, .unset] [])) _
          refine XS.iload X133.here hx rfl (hb hby at_190) rfl ?_
          show Steps p.tables e below (T133.setTop (mkF m 192 #[iv p0, iv p1, iv p2, iv p3, iv p4, iv p5, iv ra, iv rb, iv ib, iv cb, iv ca0, iv ca1, iv cb0, iv cb1, iv (1 : Int32), iv (0 : Int32), rv x125, rv x127, rv b129, iv (((p5.toUInt32 >>> ((5 : Int32) &&& 31).toUInt32).toInt32) &&& (3 : Int32)), .unset, .unset, .unset] [(.int (((p5.toUInt32 >>> ((5 : Int32) &&& 31).toUInt32).toInt32) &&& (3 : Int32)))])) _
          refine XS.iconst X133.here hx rfl (hb hby at_192) ?_
          exact kt
        by_cases hc193 : (((p5.toUInt32 >>> ((5 : Int32) &&& 31).toUInt32).toInt32) &&& (3 : Int32)) = (1 : Int32)
        · have pre139 : ∀ t, Steps p.tables e below (T133.setTop (mkF m 204 #[iv p0, iv p1, iv p2, iv p3, iv p4, iv p5, iv ra, iv rb, iv ib, iv cb, iv ca0, iv ca1, iv cb0, iv cb1, iv (1 : Int32), iv (0 : Int32), rv x125, rv x127, rv b129, iv (((p5.toUInt32 >>> ((5 : Int32) &&& 31).toUInt32).toInt32) &&& (3 : Int32)), rv x125, .unset, .unset] [(.ref x125), (.ref b129)])) t → Steps p.tables e below (s₁.setTop (entryFrame m #[(.int p0), (.int p1), (.int p2), (.int p3), (.int p4), (.int p5)] maxLocals)) t := by
            intro t kt
            refine pre138 _ ?_
            show Steps p.tables e below (T133.setTop (mkF m 193 #[iv p0, iv p1, iv p2, iv p3, iv p4, iv p5, iv ra, iv rb, iv ib, iv cb, iv ca0, iv ca1, iv cb0, iv cb1, iv (1 : Int32), iv (0 : Int32), rv x125, rv x127, rv b129, iv (((p5.toUInt32 >>> ((5 : Int32) &&& 31).toUInt32).toInt32) &&& (3 : Int32)), .unset, .unset, .unset] [(.int (1 : Int32)), (.int (((p5.toUInt32 >>> ((5 : Int32) &&& 31).toUInt32).toInt32) &&& (3 : Int32)))])) _
            refine XS.icmpNo X133.here hx rfl (hb hby at_193) rfl (teq hc193).2 ?_
            show Steps p.tables e below (T133.setTop (mkF m 196 #[iv p0, iv p1, iv p2, iv p3, iv p4, iv p5, iv ra, iv rb, iv ib, iv cb, iv ca0, iv ca1, iv cb0, iv cb1, iv (1 : Int32), iv (0 : Int32), rv x125, rv x127, rv b129, iv (((p5.toUInt32 >>> ((5 : Int32) &&& 31).toUInt32).toInt32) &&& (3 : Int32)), .unset, .unset, .unset] [])) _
            refine XS.aload X133.here hx rfl (hb hby at_196) rfl rfl ?_
            show Steps p.tables e below (T133.setTop (mkF m 198 #[iv p0, iv p1, iv p2, iv p3, iv p4, iv p5, iv ra, iv rb, iv ib, iv cb, iv ca0, iv ca1, iv cb0, iv cb1, iv (1 : Int32), iv (0 : Int32), rv x125, rv x127, rv b129, iv (((p5.toUInt32 >>> ((5 : Int32) &&& 31).toUInt32).toInt32) &&& (3 : Int32)), .unset, .unset, .unset] [(.ref x125)])) _
            refine XS.astore X133.here hx rfl (hb hby at_198) rfl rfl (l' := #[iv p0, iv p1, iv p2, iv p3, iv p4, iv p5, iv ra, iv rb, iv ib, iv cb, iv ca0, iv ca1, iv cb0, iv cb1, iv (1 : Int32), iv (0 : Int32), rv x125, rv x127, rv b129, iv (((p5.toUInt32 >>> ((5 : Int32) &&& 31).toUInt32).toInt32) &&& (3 : Int32)), rv x125, .unset, .unset]) rfl ?_
            show Steps p.tables e below (T133.setTop (mkF m 200 #[iv p0, iv p1, iv p2, iv p3, iv p4, iv p5, iv ra, iv rb, iv ib, iv cb, iv ca0, iv ca1, iv cb0, iv cb1, iv (1 : Int32), iv (0 : Int32), rv x125, rv x127, rv b129, iv (((p5.toUInt32 >>> ((5 : Int32) &&& 31).toUInt32).toInt32) &&& (3 : Int32)), rv x125, .unset, .unset] [])) _
            refine XS.aload X133.here hx rfl (hb hby at_200) rfl rfl ?_
            show Steps p.tables e below (T133.setTop (mkF m 202 #[iv p0, iv p1, iv p2, iv p3, iv p4, iv p5, iv ra, iv rb, iv ib, iv cb, iv ca0, iv ca1, iv cb0, iv cb1, iv (1 : Int32), iv (0 : Int32), rv x125, rv x127, rv b129, iv (((p5.toUInt32 >>> ((5 : Int32) &&& 31).toUInt32).toInt32) &&& (3 : Int32)), rv x125, .unset, .unset] [(.ref b129)])) _
            refine XS.aload X133.here hx rfl (hb hby at_202) rfl rfl ?_
            exact kt
          obtain ⟨cq140, kq140, q140a, q140b, q140c⟩ := isOf hZ rfl (A129.keep Kc133)
          obtain ⟨_, _, ⟨T140, L140, k140, n140⟩, -, X140, ⟨Lc140, hQ140, l140, y140, z140⟩, st140⟩ := X133.virtualBack hx (y := (⟨"com/example/fair_witness/fairwitness/verifier/DecodingFailure", "equals", "(Ljava/lang/Object;)Z"⟩ : MethodName)) (z := (⟨"com/example/fair_witness/fairwitness/verifier/DecodingFailure", "equals", "(Ljava/lang/Object;)Z"⟩ : MethodName)) hown (mvT hZ (hw _ (List.mem_of_getElem? (i := 53) rfl))) (mvT hZ (hw _ (List.mem_of_getElem? (i := 54) rfl))) (notFace_of_selects (args := #[]) (mvT hZ (hw _ (List.mem_of_getElem? (i := 56) rfl)))) (mvT hZ (hw _ (List.mem_of_getElem? (i := 56) rfl))) (mvT hZ (hw _ (List.mem_of_getElem? (i := 55) rfl))) (by decide) (backOf (W := 0) (rm10str l Z a0 hw [] b129 x125 T133.heap n0 (Nat.le_trans Z0 K133.1) (((Ex125.keep Kc127).ext E129).keep Kc133)) hZ (hw _ (List.mem_of_getElem? (i := 57) rfl)) (hw _ (List.mem_of_getElem? (i := 36) rfl)) (by decide) (by decide)) q140a q140c (g := (mkF m 204 #[iv p0, iv p1, iv p2, iv p3, iv p4, iv p5, iv ra, iv rb, iv ib, iv cb, iv ca0, iv ca1, iv cb0, iv cb1, iv (1 : Int32), iv (0 : Int32), rv x125, rv x127, rv b129, iv (((p5.toUInt32 >>> ((5 : Int32) &&& 31).toUInt32).toInt32) &&& (3 : Int32)), rv x125, .unset, .unset] [(.ref x125), (.ref b129)])) rfl (by rw [hml]; rfl) (Steps.refl _) (argsL := [(.ref x125)]) (rest := []) (lenOf pd15 rfl) rfl (by show 2 * 0 + _ ≤ _; exact Nat.le_of_eq rfl) (hb hby at_204) (fun _ _ => ⟨rfl, rfl, (by decide : 6 + 0 ≤ _), (by decide : 16 + 0 ≤ _)⟩)
          dsimp only [Pt.U, Pt.locs, Pt.cells, Pt.slots] at X140 l140 y140 z140 st140 hQ140
          subst l140 y140 z140
          obtain ⟨rfl, N140q, hh140⟩ := hQ140
          have N140 := Fr.app N133 N140q
          have pre141 : ∀ t, Steps p.tables e below (T140.setTop (mkF m 215 #[iv p0, iv p1, iv p2, iv p3, iv p4, iv p5, iv ra, iv rb, iv ib, iv cb, iv ca0, iv ca1, iv cb0, iv cb1, iv (1 : Int32), iv (0 : Int32), rv x125, rv x127, rv b129, iv (((p5.toUInt32 >>> ((5 : Int32) &&& 31).toUInt32).toInt32) &&& (3 : Int32)), rv x125, .unset, .unset] [(.int (1 : Int32))])) t → Steps p.tables e below (s₁.setTop (entryFrame m #[(.int p0), (.int p1), (.int p2), (.int p3), (.int p4), (.int p5)] maxLocals)) t := by
            intro t kt
            refine pre139 _ ?_
            show Steps p.tables e below (T133.setTop (mkF m 204 #[iv p0, iv p1, iv p2, iv p3, iv p4, iv p5, iv ra, iv rb, iv ib, iv cb, iv ca0, iv ca1, iv cb0, iv cb1, iv (1 : Int32), iv (0 : Int32), rv x125, rv x127, rv b129, iv (((p5.toUInt32 >>> ((5 : Int32) &&& 31).toUInt32).toInt32) &&& (3 : Int32)), rv x125, .unset, .unset] [(.ref x125), (.ref b129)])) _
            refine st140.trans ?_
            show Steps p.tables e below (T140.setTop (mkF m 207 #[iv p0, iv p1, iv p2, iv p3, iv p4, iv p5, iv ra, iv rb, iv ib, iv cb, iv ca0, iv ca1, iv cb0, iv cb1, iv (1 : Int32), iv (0 : Int32), rv x125, rv x127, rv b129, iv (((p5.toUInt32 >>> ((5 : Int32) &&& 31).toUInt32).toInt32) &&& (3 : Int32)), rv x125, .unset, .unset] [(.int (0 : Int32))])) _
            refine XS.ifNo X140.here hx rfl (hb hby at_207) rfl ((if0 _ _).trans (teq (by decide)).2) ?_
            show Steps p.tables e below (T140.setTop (mkF m 210 #[iv p0, iv p1, iv p2, iv p3, iv p4, iv p5, iv ra, iv rb, iv ib, iv cb, iv ca0, iv ca1, iv cb0, iv cb1, iv (1 : Int32), iv (0 : Int32), rv x125, rv x127, rv b129, iv (((p5.toUInt32 >>> ((5 : Int32) &&& 31).toUInt32).toInt32) &&& (3 : Int32)), rv x125, .unset, .unset] [])) _
            refine XS.iconst X140.here hx rfl (hb hby at_210) ?_
            show Steps p.tables e below (T140.setTop (mkF m 211 #[iv p0, iv p1, iv p2, iv p3, iv p4, iv p5, iv ra, iv rb, iv ib, iv cb, iv ca0, iv ca1, iv cb0, iv cb1, iv (1 : Int32), iv (0 : Int32), rv x125, rv x127, rv b129, iv (((p5.toUInt32 >>> ((5 : Int32) &&& 31).toUInt32).toInt32) &&& (3 : Int32)), rv x125, .unset, .unset] [(.int (1 : Int32))])) _
            refine XS.goto X140.here hx rfl (pc0 := 211) (pc' := 215) rfl (hb hby at_211) (by decide) (by decide) ?_
            exact kt
          obtain ⟨fs, hr, hrun, hended, hW, hsame⟩ := X140.leave (v := some (.int (1 : Int32))) (fun h => by rw [Bd.returns] at h; cases h)
          refine ⟨_, _, pre141 _ ?_, hrun, hended, _, _, rfl, ?_, ⟨_, rfl⟩, hW, hsame.mono (by decide) (by decide)⟩
          · show Steps p.tables e below (T140.setTop (mkF m 215 #[iv p0, iv p1, iv p2, iv p3, iv p4, iv p5, iv ra, iv rb, iv ib, iv cb, iv ca0, iv ca1, iv cb0, iv cb1, iv (1 : Int32), iv (0 : Int32), rv x125, rv x127, rv b129, iv (((p5.toUInt32 >>> ((5 : Int32) &&& 31).toUInt32).toInt32) &&& (3 : Int32)), rv x125, .unset, .unset] [(.int (1 : Int32))])) _
            exact retN X140 hx (t := .boolean) Bd.returns (by simp) (hb hby at_215) hr
          · show Q0 Z p0 p1 p2 p3 p4 p5 aK aP aS aR cs h0 n0 _ T140.heap _
            rw [hh140]
            exact ⟨rfl, N140⟩
        · have pre142 : ∀ t, Steps p.tables e below (T133.setTop (mkF m 219 #[iv p0, iv p1, iv p2, iv p3, iv p4, iv p5, iv ra, iv rb, iv ib, iv cb, iv ca0, iv ca1, iv cb0, iv cb1, iv (1 : Int32), iv (0 : Int32), rv x125, rv x127, rv b129, iv (((p5.toUInt32 >>> ((5 : Int32) &&& 31).toUInt32).toInt32) &&& (3 : Int32)), .unset, .unset, .unset] [(.int (2 : Int32)), (.int (((p5.toUInt32 >>> ((5 : Int32) &&& 31).toUInt32).toInt32) &&& (3 : Int32)))])) t → Steps p.tables e below (s₁.setTop (entryFrame m #[(.int p0), (.int p1), (.int p2), (.int p3), (.int p4), (.int p5)] maxLocals)) t := by
            intro t kt
            refine pre138 _ ?_
            show Steps p.tables e below (T133.setTop (mkF m 193 #[iv p0, iv p1, iv p2, iv p3, iv p4, iv p5, iv ra, iv rb, iv ib, iv cb, iv ca0, iv ca1, iv cb0, iv cb1, iv (1 : Int32), iv (0 : Int32), rv x125, rv x127, rv b129, iv (((p5.toUInt32 >>> ((5 : Int32) &&& 31).toUInt32).toInt32) &&& (3 : Int32)), .unset, .unset, .unset] [(.int (1 : Int32)), (.int (((p5.toUInt32 >>> ((5 : Int32) &&& 31).toUInt32).toInt32) &&& (3 : Int32)))])) _
            refine XS.icmpYes X133.here hx rfl (pc0 := 193) (pc' := 216) rfl (hb hby at_193) rfl (feq hc193).2 (by decide) (by decide) ?_
            show Steps p.tables e below (T133.setTop (mkF m 216 #[iv p0, iv p1, iv p2, iv p3, iv p4, iv p5, iv ra, iv rb, iv ib, iv cb, iv ca0, iv ca1, iv cb0, iv cb1, iv (1 : Int32), iv (0 : Int32), rv x125, rv x127, rv b129, iv (((p5.toUInt32 >>> ((5 : Int32) &&& 31).toUInt32).toInt32) &&& (3 : Int32)), .unset, .unset, .unset] [])) _
            refine XS.iload X133.here hx rfl (hb hby at_216) rfl ?_
            show Steps p.tables e below (T133.setTop (mkF m 218 #[iv p0, iv p1, iv p2, iv p3, iv p4, iv p5, iv ra, iv rb, iv ib, iv cb, iv ca0, iv ca1, iv cb0, iv cb1, iv (1 : Int32), iv (0 : Int32), rv x125, rv x127, rv b129, iv (((p5.toUInt32 >>> ((5 : Int32) &&& 31).toUInt32).toInt32) &&& (3 : Int32)), .unset, .unset, .unset] [(.int (((p5.toUInt32 >>> ((5 : Int32) &&& 31).toUInt32).toInt32) &&& (3 : Int32)))])) _
            refine XS.iconst X133.here hx rfl (hb hby at_218) ?_
            exact kt
          by_cases hc219 : (((p5.toUInt32 >>> ((5 : Int32) &&& 31).toUInt32).toInt32) &&& (3 : Int32)) = (2 : Int32)
          · have pre143 : ∀ t, Steps p.tables e below (T133.setTop (mkF m 226 #[iv p0, iv p1, iv p2, iv p3, iv p4, iv p5, iv ra, iv rb, iv ib, iv cb, iv ca0, iv ca1, iv cb0, iv cb1, iv (1 : Int32), iv (0 : Int32), rv x125, rv x127, rv b129, iv (((p5.toUInt32 >>> ((5 : Int32) &&& 31).toUInt32).toInt32) &&& (3 : Int32)), .unset, .unset, .unset] [(.ref b129), (.ref b129)])) t → Steps p.tables e below (s₁.setTop (entryFrame m #[(.int p0), (.int p1), (.int p2), (.int p3), (.int p4), (.int p5)] maxLocals)) t := by
              intro t kt
              refine pre142 _ ?_
              show Steps p.tables e below (T133.setTop (mkF m 219 #[iv p0, iv p1, iv p2, iv p3, iv p4, iv p5, iv ra, iv rb, iv ib, iv cb, iv ca0, iv ca1, iv cb0, iv cb1, iv (1 : Int32), iv (0 : Int32), rv x125, rv x127, rv b129, iv (((p5.toUInt32 >>> ((5 : Int32) &&& 31).toUInt32).toInt32) &&& (3 : Int32)), .unset, .unset, .unset] [(.int (2 : Int32)), (.int (((p5.toUInt32 >>> ((5 : Int32) &&& 31).toUInt32).toInt32) &&& (3 : Int32)))])) _
              refine XS.icmpNo X133.here hx rfl (hb hby at_219) rfl (teq hc219).2 ?_
              show Steps p.tables e below (T133.setTop (mkF m 222 #[iv p0, iv p1, iv p2, iv p3, iv p4, iv p5, iv ra, iv rb, iv ib, iv cb, iv ca0, iv ca1, iv cb0, iv cb1, iv (1 : Int32), iv (0 : Int32), rv x125, rv x127, rv b129, iv (((p5.toUInt32 >>> ((5 : Int32) &&& 31).toUInt32).toInt32) &&& (3 : Int32)), .unset, .unset, .unset] [])) _
              refine XS.aload X133.here hx rfl (hb hby at_222) rfl rfl ?_
              show Steps p.tables e below (T133.setTop (mkF m 224 #[iv p0, iv p1, iv p2, iv p3, iv p4, iv p5, iv ra, iv rb, iv ib, iv cb, iv ca0, iv ca1, iv cb0, iv cb1, iv (1 : Int32), iv (0 : Int32), rv x125, rv x127, rv b129, iv (((p5.toUInt32 >>> ((5 : Int32) &&& 31).toUInt32).toInt32) &&& (3 : Int32)), .unset, .unset, .unset] [(.ref b129)])) _
              refine XS.aload X133.here hx rfl (hb hby at_224) rfl rfl ?_
              exact kt
            obtain ⟨cq144, kq144, q144a, q144b, q144c⟩ := isOf hZ rfl (A129.keep Kc133)
            obtain ⟨_, _, ⟨T144, L144, k144, n144⟩, -, X144, ⟨Lc144, hQ144, l144, y144, z144⟩, st144⟩ := X133.virtualBack hx (y := (⟨"com/example/fair_witness/fairwitness/verifier/DecodingFailure", "equals", "(Ljava/lang/Object;)Z"⟩ : MethodName)) (z := (⟨"com/example/fair_witness/fairwitness/verifier/DecodingFailure", "equals", "(Ljava/lang/Object;)Z"⟩ : MethodName)) hown (mvT hZ (hw _ (List.mem_of_getElem? (i := 53) rfl))) (mvT hZ (hw _ (List.mem_of_getElem? (i := 54) rfl))) (notFace_of_selects (args := #[]) (mvT hZ (hw _ (List.mem_of_getElem? (i := 56) rfl)))) (mvT hZ (hw _ (List.mem_of_getElem? (i := 56) rfl))) (mvT hZ (hw _ (List.mem_of_getElem? (i := 55) rfl))) (by decide) (backOf (W := 0) (rm10same l Z a0 hw [] b129 (own_rs aK aP aS aR ra) p1 x125 T133.heap n0 (Nat.le_trans Z0 K133.1) F0_133 F1_133 F2_133 (A129.keep Kc133) (((Ex125.keep Kc127).ext E129).keep Kc133)) hZ (hw _ (List.mem_of_getElem? (i := 57) rfl)) (hw _ (List.mem_of_getElem? (i := 36) rfl)) (by decide) (by decide)) q144a q144c (g := (mkF m 226 #[iv p0, iv p1, iv p2, iv p3, iv p4, iv p5, iv ra, iv rb, iv ib, iv cb, iv ca0, iv ca1, iv cb0, iv cb1, iv (1 : Int32), iv (0 : Int32), rv x125, rv x127, rv b129, iv (((p5.toUInt32 >>> ((5 : Int32) &&& 31).toUInt32).toInt32) &&& (3 : Int32)), .unset, .unset, .unset] [(.ref b129), (.ref b129)])) rfl (by rw [hml]; rfl) (Steps.refl _) (argsL := [(.ref b129)]) (rest := []) (lenOf pd15 rfl) rfl (by show 2 * 0 + _ ≤ _; exact Nat.le_of_eq rfl) (hb hby at_226) (fun _ _ => ⟨rfl, rfl, (by decide : 6 + 0 ≤ _), (by decide : 16 + 0 ≤ _)⟩)
            dsimp only [Pt.U, Pt.locs, Pt.cells, Pt.slots] at X144 l144 y144 z144 st144 hQ144
            subst l144 y144 z144
            obtain ⟨rfl, N144q, hh144⟩ := hQ144
            have N144 := Fr.app N133 N144q
            have pre145 : ∀ t, Steps p.tables e below (T144.setTop (mkF m 229 #[iv p0, iv p1, iv p2, iv p3, iv p4, iv p5, iv ra, iv rb, iv ib, iv cb, iv ca0, iv ca1, iv cb0, iv cb1, iv (1 : Int32), iv (0 : Int32), rv x125, rv x127, rv b129, iv (((p5.toUInt32 >>> ((5 : Int32) &&& 31).toUInt32).toInt32) &&& (3 : Int32)), .unset, .unset, .unset] [(.int (1 : Int32))])) t → Steps p.tables e below (s₁.setTop (entryFrame m #[(.int p0), (.int p1), (.int p2), (.int p3), (.int p4), (.int p5)] maxLocals)) t := by
              intro t kt
              refine pre143 _ ?_
              show Steps p.tables e below (T133.setTop (mkF m 226 #[iv p0, iv p1, iv p2, iv p3, iv p4, iv p5, iv ra, iv rb, iv ib, iv cb, iv ca0, iv ca1, iv cb0, iv cb1, iv (1 : Int32), iv (0 : Int32), rv x125, rv x127, rv b129, iv (((p5.toUInt32 >>> ((5 : Int32) &&& 31).toUInt32).toInt32) &&& (3 : Int32)), .unset, .unset, .unset] [(.ref b129), (.ref b129)])) _
              refine st144.trans ?_
              exact kt
            obtain ⟨fs, hr, hrun, hended, hW, hsame⟩ := X144.leave (v := some (.int (1 : Int32))) (fun h => by rw [Bd.returns] at h; cases h)
            refine ⟨_, _, pre145 _ ?_, hrun, hended, _, _, rfl, ?_, ⟨_, rfl⟩, hW, hsame.mono (by decide) (by decide)⟩
            · show Steps p.tables e below (T144.setTop (mkF m 229 #[iv p0, iv p1, iv p2, iv p3, iv p4, iv p5, iv ra, iv rb, iv ib, iv cb, iv ca0, iv ca1, iv cb0, iv cb1, iv (1 : Int32), iv (0 : Int32), rv x125, rv x127, rv b129, iv (((p5.toUInt32 >>> ((5 : Int32) &&& 31).toUInt32).toInt32) &&& (3 : Int32)), .unset, .unset, .unset] [(.int (1 : Int32))])) _
              exact retN X144 hx (t := .boolean) Bd.returns (by simp) (hb hby at_229) hr
            · show Q0 Z p0 p1 p2 p3 p4 p5 aK aP aS aR cs h0 n0 _ T144.heap _
              rw [hh144]
              exact ⟨rfl, N144⟩
          · have pre146 : ∀ t, Steps p.tables e below (T133.setTop (mkF m 230 #[iv p0, iv p1, iv p2, iv p3, iv p4, iv p5, iv ra, iv rb, iv ib, iv cb, iv ca0, iv ca1, iv cb0, iv cb1, iv (1 : Int32), iv (0 : Int32), rv x125, rv x127, rv b129, iv (((p5.toUInt32 >>> ((5 : Int32) &&& 31).toUInt32).toInt32) &&& (3 : Int32)), .unset, .unset, .unset] [])) t → Steps p.tables e below (s₁.setTop (entryFrame m #[(.int p0), (.int p1), (.int p2), (.int p3), (.int p4), (.int p5)] maxLocals)) t := by
              intro t kt
              refine pre142 _ ?_
              show Steps p.tables e below (T133.setTop (mkF m 219 #[iv p0, iv p1, iv p2, iv p3, iv p4, iv p5, iv ra, iv rb, iv ib, iv cb, iv ca0, iv ca1, iv cb0, iv cb1, iv (1 : Int32), iv (0 : Int32), rv x125, rv x127, rv b129, iv (((p5.toUInt32 >>> ((5 : Int32) &&& 31).toUInt32).toInt32) &&& (3 : Int32)), .unset, .unset, .unset] [(.int (2 : Int32)), (.int (((p5.toUInt32 >>> ((5 : Int32) &&& 31).toUInt32).toInt32) &&& (3 : Int32)))])) _
              refine XS.icmpYes X133.here hx rfl (pc0 := 219) (pc' := 230) rfl (hb hby at_219) rfl (feq hc219).2 (by decide) (by decide) ?_
              exact kt
            obtain ⟨T147, h147, X147, e147, E147, A147, D147, -, st147⟩ := newO X133 hx hZ hown (hw _ (List.mem_of_getElem? (i := 34) rfl)) (hw _ (List.mem_of_getElem? (i := 35) rfl)) (hw _ (List.mem_of_getElem? (i := 36) rfl)) rfl (g := (mkF m 230 #[iv p0, iv p1, iv p2, iv p3, iv p4, iv p5, iv ra, iv rb, iv ib, iv cb, iv ca0, iv ca1, iv cb0, iv cb1, iv (1 : Int32), iv (0 : Int32), rv x125, rv x127, rv b129, iv (((p5.toUInt32 >>> ((5 : Int32) &&& 31).toUInt32).toInt32) &&& (3 : Int32)), .unset, .unset, .unset] [])) rfl (hb hby at_230) (by decide) (by decide)
            obtain ⟨b147, g147⟩ : ∃ z, z = T133.heap.size := ⟨_, rfl⟩
            rw [← g147] at A147 D147 st147
            have g_b147 : n0 ≤ b147 := Nat.le_trans (Nat.le_trans Z0 K133.1) (Nat.le_of_eq g147.symm)
            have sz_b147 : h0.size ≤ b147 := Nat.le_trans K133.1 (Nat.le_of_eq g147.symm)
            have F_reason_b147 : Fld Z h147 b147 "com/example/fair_witness/fairwitness/verifier/DecodingFailure" "reason" "Lcom/example/fair_witness/fairwitness/verifier/Reason;" .null := D147 (Or.inr (hw _ (List.mem_of_getElem? (i := 48) rfl))) (ty := (.object "com/example/fair_witness/fairwitness/verifier/Reason")) (by decide)
            have F_certificateIndex_b147 : Fld Z h147 b147 "com/example/fair_witness/fairwitness/verifier/DecodingFailure" "certificateIndex" "I" (.int (0 : Int32)) := D147 (Or.inr (hw _ (List.mem_of_getElem? (i := 50) rfl))) (ty := .int) (by decide)
            have F_detail_b147 : Fld Z h147 b147 "com/example/fair_witness/fairwitness/verifier/DecodingFailure" "detail" "Ljava/lang/String;" .null := D147 (Or.inr (hw _ (List.mem_of_getElem? (i := 52) rfl))) (ty := (.object "java/lang/String")) (by decide)
            have K147 : Keep h0 h147 [] := K133.ext E147
            have pre148 : ∀ t, Steps p.tables e below (T147.setTop (mkF m 236 #[iv p0, iv p1, iv p2, iv p3, iv p4, iv p5, iv ra, iv rb, iv ib, iv cb, iv ca0, iv ca1, iv cb0, iv cb1, iv (1 : Int32), iv (0 : Int32), rv x125, rv x127, rv b129, iv (((p5.toUInt32 >>> ((5 : Int32) &&& 31).toUInt32).toInt32) &&& (3 : Int32)), .unset, .unset, .unset] [(.int rb), (.ref b147), (.ref b147)])) t → Steps p.tables e below (s₁.setTop (entryFrame m #[(.int p0), (.int p1), (.int p2), (.int p3), (.int p4), (.int p5)] maxLocals)) t := by
              intro t kt
              refine pre146 _ ?_
              show Steps p.tables e below (T133.setTop (mkF m 230 #[iv p0, iv p1, iv p2, iv p3, iv p4, iv p5, iv ra, iv rb, iv ib, iv cb, iv ca0, iv ca1, iv cb0, iv cb1, iv (1 : Int32), iv (0 : Int32), rv x125, rv x127, rv b129, iv (((p5.toUInt32 >>> ((5 : Int32) &&& 31).toUInt32).toInt32) &&& (3 : Int32)), .unset, .unset, .unset] [])) _
              refine st147 _ ?_
              show Steps p.tables e below (T147.setTop (mkF m 233 #[iv p0, iv p1, iv p2, iv p3, iv p4, iv p5, iv ra, iv rb, iv ib, iv cb, iv ca0, iv ca1, iv cb0, iv cb1, iv (1 : Int32), iv (0 : Int32), rv x125, rv x127, rv b129, iv (((p5.toUInt32 >>> ((5 : Int32) &&& 31).toUInt32).toInt32) &&& (3 : Int32)), .unset, .unset, .unset] [(.ref b147)])) _
              refine XS.dup X147.here hx rfl (hb hby at_233) rfl rfl ?_
              show Steps p.tables e below (T147.setTop (mkF m 234 #[iv p0, iv p1, iv p2, iv p3, iv p4, iv p5, iv ra, iv rb, iv ib, iv cb, iv ca0, iv ca1, iv cb0, iv cb1, iv (1 : Int32), iv (0 : Int32), rv x125, rv x127, rv b129, iv (((p5.toUInt32 >>> ((5 : Int32) &&& 31).toUInt32).toInt32) &&& (3 : Int32)), .unset, .unset, .unset] [(.ref b147), (.ref b147)])) _
              refine XS.iload X147.here hx rfl (hb hby at_234) rfl ?_
              exact kt
            obtain ⟨_, _, ⟨T149, L149, k149, n149⟩, -, X149, ⟨Lc149, hQ149, l149, y149, z149⟩, st149⟩ := Jvm.LawKit.callS X147 hx (y := (⟨"com/example/fair_witness/fairwitness/verifier/DecodingFailureEqualsPinLaw", "reason", "(I)Lcom/example/fair_witness/fairwitness/verifier/Reason;"⟩ : MethodName)) hown (mvT hZ (hw _ (List.mem_of_getElem? (i := 37) rfl))) (mvT hZ (hw _ (List.mem_of_getElem? (i := 38) rfl))) (mvT hZ (hw _ (List.mem_of_getElem? (i := 2) rfl))) (mvT hZ (hw _ (List.mem_of_getElem? (i := 39) rfl))) (by decide) (backOf (W := 2) (rm8 l Z a0 hw [] rb aK aP aS aR h147 n0 (Nat.le_trans Z0 K147.1) (O0.keep K147 all0) S_KEY_DESCRIPTION_INVALID S_PROVISIONING_INFO_INVALID S_SIGNATURE_INVALID S_ROOT_NOT_TRUSTED) hZ (hw _ (List.mem_of_getElem? (i := 39) rfl)) (hw _ (List.mem_of_getElem? (i := 2) rfl)) (by decide) (by decide)) (g := (mkF m 236 #[iv p0, iv p1, iv p2, iv p3, iv p4, iv p5, iv ra, iv rb, iv ib, iv cb, iv ca0, iv ca1, iv cb0, iv cb1, iv (1 : Int32), iv (0 : Int32), rv x125, rv x127, rv b129, iv (((p5.toUInt32 >>> ((5 : Int32) &&& 31).toUInt32).toInt32) &&& (3 : Int32)), .unset, .unset, .unset] [(.int rb), (.ref b147), (.ref b147)])) rfl (by rw [hml]; rfl) (argsL := [(.int rb)]) (rest := [(.ref b147), (.ref b147)]) (lenOf pd17 rfl) rfl (by show 2 * 0 + _ ≤ _; exact Nat.le_of_eq rfl) (hb hby at_236) (fun _ _ => ⟨rfl, e147, (by decide : 7 + 0 ≤ _), (by decide : 19 + 0 ≤ _)⟩)
            dsimp only [Pt.U, Pt.locs, Pt.cells, Pt.slots] at X149 l149 y149 z149 st149 hQ149
            subst l149 y149 z149
            obtain ⟨rfl, N149q, hh149⟩ := hQ149
            have N149 := Fr.app N133 N149q
            have pre150 : ∀ t, Steps p.tables e below (T149.setTop (mkF m 243 #[iv p0, iv p1, iv p2, iv p3, iv p4, iv p5, iv ra, iv rb, iv ib, iv cb, iv ca0, iv ca1, iv cb0, iv cb1, iv (1 : Int32), iv (0 : Int32), rv x125, rv x127, rv b129, iv (((p5.toUInt32 >>> ((5 : Int32) &&& 31).toUInt32).toInt32) &&& (3 : Int32)), .unset, .unset, .unset] [(.ref x127), (.int ib), (.ref (own_rs aK aP aS aR rb)), (.ref b147), (.ref b147)])) t → Steps p.tables e below (s₁.setTop (entryFrame m #[(.int p0), (.int p1), (.int p2), (.int p3), (.int p4), (.int p5)] maxLocals)) t := by
              intro t kt
              refine pre148 _ ?_
              show Steps p.tables e below (T147.setTop (mkF m 236 #[iv p0, iv p1, iv p2, iv p3, iv p4, iv p5, iv ra, iv rb, iv ib, iv cb, iv ca0, iv ca1, iv cb0, iv cb1, iv (1 : Int32), iv (0 : Int32), rv x125, rv x127, rv b129, iv (((p5.toUInt32 >>> ((5 : Int32) &&& 31).toUInt32).toInt32) &&& (3 : Int32)), .unset, .unset, .unset] [(.int rb), (.ref b147), (.ref b147)])) _
              refine st149 _ ?_
              show Steps p.tables e below (T149.setTop (mkF m 239 #[iv p0, iv p1, iv p2, iv p3, iv p4, iv p5, iv ra, iv rb, iv ib, iv cb, iv ca0, iv ca1, iv cb0, iv cb1, iv (1 : Int32), iv (0 : Int32), rv x125, rv x127, rv b129, iv (((p5.toUInt32 >>> ((5 : Int32) &&& 31).toUInt32).toInt32) &&& (3 : Int32)), .unset, .unset, .unset] [(.ref (own_rs aK aP aS aR rb)), (.ref b147), (.ref b147)])) _
              refine XS.iload X149.here hx rfl (hb hby at_239) rfl ?_
              show Steps p.tables e below (T149.setTop (mkF m 241 #[iv p0, iv p1, iv p2, iv p3, iv p4, iv p5, iv ra, iv rb, iv ib, iv cb, iv ca0, iv ca1, iv cb0, iv cb1, iv (1 : Int32), iv (0 : Int32), rv x125, rv x127, rv b129, iv (((p5.toUInt32 >>> ((5 : Int32) &&& 31).toUInt32).toInt32) &&& (3 : Int32)), .unset, .unset, .unset] [(.int ib), (.ref (own_rs aK aP aS aR rb)), (.ref b147), (.ref b147)])) _
              refine XS.aload X149.here hx rfl (hb hby at_241) rfl rfl ?_
              exact kt
            obtain ⟨_, _, ⟨T151, L151, k151, n151⟩, -, X151, ⟨Lc151, hQ151, l151, y151, z151⟩, st151⟩ := X149.specialBack hx (y := (⟨"com/example/fair_witness/fairwitness/verifier/DecodingFailure", "<init>", "(Lcom/example/fair_witness/fairwitness/verifier/Reason;ILjava/lang/String;)V"⟩ : MethodName)) rfl hown (mvT hZ (hw _ (List.mem_of_getElem? (i := 43) rfl))) (mvT hZ (hw _ (List.mem_of_getElem? (i := 44) rfl))) (mvT hZ (hw _ (List.mem_of_getElem? (i := 45) rfl))) (by decide) (backOf (W := 1) (rm9 l Z a0 hw [] b147 (own_rs aK aP aS aR rb) ib x127 h147 n0 (Nat.le_trans Z0 K147.1) F_reason_b147 F_certificateIndex_b147 F_detail_b147 A147 g_b147) hZ (hw _ (List.mem_of_getElem? (i := 45) rfl)) (hw _ (List.mem_of_getElem? (i := 36) rfl)) (by decide) (by decide)) (g := (mkF m 243 #[iv p0, iv p1, iv p2, iv p3, iv p4, iv p5, iv ra, iv rb, iv ib, iv cb, iv ca0, iv ca1, iv cb0, iv cb1, iv (1 : Int32), iv (0 : Int32), rv x125, rv x127, rv b129, iv (((p5.toUInt32 >>> ((5 : Int32) &&& 31).toUInt32).toInt32) &&& (3 : Int32)), .unset, .unset, .unset] [(.ref x127), (.int ib), (.ref (own_rs aK aP aS aR rb)), (.ref b147), (.ref b147)])) rfl (by rw [hml]; rfl) (Steps.refl _) (a := b147) (argsL := [(.ref (own_rs aK aP aS aR rb)), (.int ib), (.ref x127)]) (rest := [(.ref b147)]) (lenOf pd18 rfl) rfl (by show 2 * 0 + _ ≤ _; exact Nat.le_of_eq rfl) (hb hby at_243) (fun _ _ => ⟨rfl, hh149, (by decide : 7 + 0 ≤ _), (by decide : 19 + 0 ≤ _)⟩)
            dsimp only [Pt.U, Pt.locs, Pt.cells, Pt.slots] at X151 l151 y151 z151 st151 hQ151
            subst l151 y151 z151
            obtain ⟨rfl, N151q, Kc151, F0_151, F1_151, F2_151⟩ := hQ151
            have N151 := Fr.app N149 N151q
            have K151 : Keep h0 T151.heap [] := K147.trans Kc151 (allS (Or.inr sz_b147) all0)
            have pre152 : ∀ t, Steps p.tables e below (T151.setTop (mkF m 248 #[iv p0, iv p1, iv p2, iv p3, iv p4, iv p5, iv ra, iv rb, iv ib, iv cb, iv ca0, iv ca1, iv cb0, iv cb1, iv (1 : Int32), iv (0 : Int32), rv x125, rv x127, rv b129, iv (((p5.toUInt32 >>> ((5 : Int32) &&& 31).toUInt32).toInt32) &&& (3 : Int32)), rv b147, .unset, .unset] [])) t → Steps p.tables e below (s₁.setTop (entryFrame m #[(.int p0), (.int p1), (.int p2), (.int p3), (.int p4), (.int p5)] maxLocals)) t := by
              intro t kt
              refine pre150 _ ?_
              show Steps p.tables e below (T149.setTop (mkF m 243 #[iv p0, iv p1, iv p2, iv p3, iv p4, iv p5, iv ra, iv rb, iv ib, iv cb, iv ca0, iv ca1, iv cb0, iv cb1, iv (1 : Int32), iv (0 : Int32), rv x125, rv x127, rv b129, iv (((p5.toUInt32 >>> ((5 : Int32) &&& 31).toUInt32).toInt32) &&& (3 : Int32)), .unset, .unset, .unset] [(.ref x127), (.int ib), (.ref (own_rs aK aP aS aR rb)), (.ref b147), (.ref b147)])) _
              refine st151.trans ?_
              show Steps p.tables e below (T151.setTop (mkF m 246 #[iv p0, iv p1, iv p2, iv p3, iv p4, iv p5, iv ra, iv rb, iv ib, iv cb, iv ca0, iv ca1, iv cb0, iv cb1, iv (1 : Int32), iv (0 : Int32), rv x125, rv x127, rv b129, iv (((p5.toUInt32 >>> ((5 : Int32) &&& 31).toUInt32).toInt32) &&& (3 : Int32)), .unset, .unset, .unset] [(.ref b147)])) _
              refine XS.astore X151.here hx rfl (hb hby at_246) rfl rfl (l' := #[iv p0, iv p1, iv p2, iv p3, iv p4, iv p5, iv ra, iv rb, iv ib, iv cb, iv ca0, iv ca1, iv cb0, iv cb1, iv (1 : Int32), iv (0 : Int32), rv x125, rv x127, rv b129, iv (((p5.toUInt32 >>> ((5 : Int32) &&& 31).toUInt32).toInt32) &&& (3 : Int32)), rv b147, .unset, .unset]) rfl ?_
              exact kt
            obtain ⟨hsd, pre154⟩ : ((True)) ∧ ∀ t, Steps p.tables e below (T151.setTop (mkF m 279 #[iv p0, iv p1, iv p2, iv p3, iv p4, iv p5, iv ra, iv rb, iv ib, iv cb, iv ca0, iv ca1, iv cb0, iv cb1, iv (1 : Int32), iv (0 : Int32), rv x125, rv x127, rv b129, iv (((p5.toUInt32 >>> ((5 : Int32) &&& 31).toUInt32).toInt32) &&& (3 : Int32)), rv b147, .unset, .unset] [(.int (0 : Int32))])) t → Steps p.tables e below (s₁.setTop (entryFrame m #[(.int p0), (.int p1), (.int p2), (.int p3), (.int p4), (.int p5)] maxLocals)) t := by
              have pre153 : ∀ t, Steps p.tables e below (T151.setTop (mkF m 279 #[iv p0, iv p1, iv p2, iv p3, iv p4, iv p5, iv ra, iv rb, iv ib, iv cb, iv ca0, iv ca1, iv cb0, iv cb1, iv (1 : Int32), iv (0 : Int32), rv x125, rv x127, rv b129, iv (((p5.toUInt32 >>> ((5 : Int32) &&& 31).toUInt32).toInt32) &&& (3 : Int32)), rv b147, .unset, .unset] [(.int (0 : Int32))])) t → Steps p.tables e below (s₁.setTop (entryFrame m #[(.int p0), (.int p1), (.int p2), (.int p3), (.int p4), (.int p5)] maxLocals)) t := by
                intro t kt
                refine pre152 _ ?_
                show Steps p.tables e below (T151.setTop (mkF m 248 #[iv p0, iv p1, iv p2, iv p3, iv p4, iv p5, iv ra, iv rb, iv ib, iv cb, iv ca0, iv ca1, iv cb0, iv cb1, iv (1 : Int32), iv (0 : Int32), rv x125, rv x127, rv b129, iv (((p5.toUInt32 >>> ((5 : Int32) &&& 31).toUInt32).toInt32) &&& (3 : Int32)), rv b147, .unset, .unset] [])) _
                refine XS.iload X151.here hx rfl (hb hby at_248) rfl ?_
                show Steps p.tables e below (T151.setTop (mkF m 250 #[iv p0, iv p1, iv p2, iv p3, iv p4, iv p5, iv ra, iv rb, iv ib, iv cb, iv ca0, iv ca1, iv cb0, iv cb1, iv (1 : Int32), iv (0 : Int32), rv x125, rv x127, rv b129, iv (((p5.toUInt32 >>> ((5 : Int32) &&& 31).toUInt32).toInt32) &&& (3 : Int32)), rv b147, .unset, .unset] [(.int (1 : Int32))])) _
                refine XS.iload X151.here hx rfl (hb hby at_250) rfl ?_
                show Steps p.tables e below (T151.setTop (mkF m 252 #[iv p0, iv p1, iv p2, iv p3, iv p4, iv p5, iv ra, iv rb, iv ib, iv cb, iv ca0, iv ca1, iv cb0, iv cb1, iv (1 : Int32), iv (0 : Int32), rv x125, rv x127, rv b129, iv (((p5.toUInt32 >>> ((5 : Int32) &&& 31).toUInt32).toInt32) &&& (3 : Int32)), rv b147, .unset, .unset] [(.int (0 : Int32)), (.int (1 : Int32))])) _
                refine XS.icmpYes X151.here hx rfl (pc0 := 252) (pc' := 278) rfl (hb hby at_252) rfl (feq (by decide)).2 (by decide) (by decide) ?_
                show Steps p.tables e below (T151.setTop (mkF m 278 #[iv p0, iv p1, iv p2, iv p3, iv p4, iv p5, iv ra, iv rb, iv ib, iv cb, iv ca0, iv ca1, iv cb0, iv cb1, iv (1 : Int32), iv (0 : Int32), rv x125, rv x127, rv b129, iv (((p5.toUInt32 >>> ((5 : Int32) &&& 31).toUInt32).toInt32) &&& (3 : Int32)), rv b147, .unset, .unset] [])) _
                refine XS.iconst X151.here hx rfl (hb hby at_278) ?_
                exact kt
              exact ⟨trivial, pre153⟩
            have pre155 : ∀ t, Steps p.tables e below (T151.setTop (mkF m 281 #[iv p0, iv p1, iv p2, iv p3, iv p4, iv p5, iv ra, iv rb, iv ib, iv cb, iv ca0, iv ca1, iv cb0, iv cb1, iv (1 : Int32), iv (0 : Int32), rv x125, rv x127, rv b129, iv (((p5.toUInt32 >>> ((5 : Int32) &&& 31).toUInt32).toInt32) &&& (3 : Int32)), rv b147, iv (0 : Int32), .unset] [])) t → Steps p.tables e below (s₁.setTop (entryFrame m #[(.int p0), (.int p1), (.int p2), (.int p3), (.int p4), (.int p5)] maxLocals)) t := by
              intro t kt
              refine pre154 _ ?_
              show Steps p.tables e below (T151.setTop (mkF m 279 #[iv p0, iv p1, iv p2, iv p3, iv p4, iv p5, iv ra, iv rb, iv ib, iv cb, iv ca0, iv ca1, iv cb0, iv cb1, iv (1 : Int32), iv (0 : Int32), rv x125, rv x127, rv b129, iv (((p5.toUInt32 >>> ((5 : Int32) &&& 31).toUInt32).toInt32) &&& (3 : Int32)), rv b147, .unset, .unset] [(.int (0 : Int32))])) _
              refine XS.istore X151.here hx rfl (hb hby at_279) rfl (l' := #[iv p0, iv p1, iv p2, iv p3, iv p4, iv p5, iv ra, iv rb, iv ib, iv cb, iv ca0, iv ca1, iv cb0, iv cb1, iv (1 : Int32), iv (0 : Int32), rv x125, rv x127, rv b129, iv (((p5.toUInt32 >>> ((5 : Int32) &&& 31).toUInt32).toInt32) &&& (3 : Int32)), rv b147, iv (0 : Int32), .unset]) rfl ?_
              exact kt
            obtain ⟨hex, pre161⟩ : (((ra = rb) ∧ (p1 = ib)) ∨ ((ra = rb) ∧ (¬ (p1 = ib))) ∨ ((¬ (ra = rb)))) ∧ ∀ t, Steps p.tables e below (T151.setTop (mkF m 304 #[iv p0, iv p1, iv p2, iv p3, iv p4, iv p5, iv ra, iv rb, iv ib, iv cb, iv ca0, iv ca1, iv cb0, iv cb1, iv (1 : Int32), iv (0 : Int32), rv x125, rv x127, rv b129, iv (((p5.toUInt32 >>> ((5 : Int32) &&& 31).toUInt32).toInt32) &&& (3 : Int32)), rv b147, iv (0 : Int32), .unset] [(.int (0 : Int32))])) t → Steps p.tables e below (s₁.setTop (entryFrame m #[(.int p0), (.int p1), (.int p2), (.int p3), (.int p4), (.int p5)] maxLocals)) t := by
              have pre156 : ∀ t, Steps p.tables e below (T151.setTop (mkF m 285 #[iv p0, iv p1, iv p2, iv p3, iv p4, iv p5, iv ra, iv rb, iv ib, iv cb, iv ca0, iv ca1, iv cb0, iv cb1, iv (1 : Int32), iv (0 : Int32), rv x125, rv x127, rv b129, iv (((p5.toUInt32 >>> ((5 : Int32) &&& 31).toUInt32).toInt32) &&& (3 : Int32)), rv b147, iv (0 : Int32), .unset] [(.int rb), (.int ra)])) t → Steps p.tables e below (s₁.setTop (entryFrame m #[(.int p0), (.int p1), (.int p2), (.int p3), (.int p4), (.int p5)] maxLocals)) t := by
                intro t kt
                refine pre155 _ ?_
                show Steps p.tables e below (T151.setTop (mkF m 281 #[iv p0, iv p1, iv p2, iv p3, iv p4, iv p5, iv ra, iv rb, iv ib, iv cb, iv ca0, iv ca1, iv cb0, iv cb1, iv (1 : Int32), iv (0 : Int32), rv x125, rv x127, rv b129, iv (((p5.toUInt32 >>> ((5 : Int32) &&& 31).toUInt32).toInt32) &&& (3 : Int32)), rv b147, iv (0 : Int32), .unset] [])) _
                refine XS.iload X151.here hx rfl (hb hby at_281) rfl ?_
                show Steps p.tables e below (T151.setTop (mkF m 283 #[iv p0, iv p1, iv p2, iv p3, iv p4, iv p5, iv ra, iv rb, iv ib, iv cb, iv ca0, iv ca1, iv cb0, iv cb1, iv (1 : Int32), iv (0 : Int32), rv x125, rv x127, rv b129, iv (((p5.toUInt32 >>> ((5 : Int32) &&& 31).toUInt32).toInt32) &&& (3 : Int32)), rv b147, iv (0 : Int32), .unset] [(.int ra)])) _
                refine XS.iload X151.here hx rfl (hb hby at_283) rfl ?_
                exact kt
              by_cases hc285 : ra = rb
              · have pre157 : ∀ t, Steps p.tables e below (T151.setTop (mkF m 291 #[iv p0, iv p1, iv p2, iv p3, iv p4, iv p5, iv ra, iv rb, iv ib, iv cb, iv ca0, iv ca1, iv cb0, iv cb1, iv (1 : Int32), iv (0 : Int32), rv x125, rv x127, rv b129, iv (((p5.toUInt32 >>> ((5 : Int32) &&& 31).toUInt32).toInt32) &&& (3 : Int32)), rv b147, iv (0 : Int32), .unset] [(.int ib), (.int p1)])) t → Steps p.tables e below (s₁.setTop (entryFrame m #[(.int p0), (.int p1), (.int p2), (.int p3), (.int p4), (.int p5)] maxLocals)) t := by
                  intro t kt
                  refine pre156 _ ?_
                  show Steps p.tables e below (T151.setTop (mkF m 285 #[iv p0, iv p1, iv p2, iv p3, iv p4, iv p5, iv ra, iv rb, iv ib, iv cb, iv ca0, iv ca1, iv cb0, iv cb1, iv (1 : Int32), iv (0 : Int32), rv x125, rv x127, rv b129, iv (((p5.toUInt32 >>> ((5 : Int32) &&& 31).toUInt32).toInt32) &&& (3 : Int32)), rv b147, iv (0 : Int32), .unset] [(.int rb), (.int ra)])) _
                  refine XS.icmpNo X151.here hx rfl (hb hby at_285) rfl (teq hc285).2 ?_
                  show Steps p.tables e below (T151.setTop (mkF m 288 #[iv p0, iv p1, iv p2, iv p3, iv p4, iv p5, iv ra, iv rb, iv ib, iv cb, iv ca0, iv ca1, iv cb0, iv cb1, iv (1 : Int32), iv (0 : Int32), rv x125, rv x127, rv b129, iv (((p5.toUInt32 >>> ((5 : Int32) &&& 31).toUInt32).toInt32) &&& (3 : Int32)), rv b147, iv (0 : Int32), .unset] [])) _
                  refine XS.iloadN X151.here hx rfl (hb hby at_288) rfl ?_
                  show Steps p.tables e below (T151.setTop (mkF m 289 #[iv p0, iv p1, iv p2, iv p3, iv p4, iv p5, iv ra, iv rb, iv ib, iv cb, iv ca0, iv ca1, iv cb0, iv cb1, iv (1 : Int32), iv (0 : Int32), rv x125, rv x127, rv b129, iv (((p5.toUInt32 >>> ((5 : Int32) &&& 31).toUInt32).toInt32) &&& (3 : Int32)), rv b147, iv (0 : Int32), .unset] [(.int p1)])) _
                  refine XS.iload X151.here hx rfl (hb hby at_289) rfl ?_
                  exact kt
                by_cases hc291 : p1 = ib
                · have pre158 : ∀ t, Steps p.tables e below (T151.setTop (mkF m 304 #[iv p0, iv p1, iv p2, iv p3, iv p4, iv p5, iv ra, iv rb, iv ib, iv cb, iv ca0, iv ca1, iv cb0, iv cb1, iv (1 : Int32), iv (0 : Int32), rv x125, rv x127, rv b129, iv (((p5.toUInt32 >>> ((5 : Int32) &&& 31).toUInt32).toInt32) &&& (3 : Int32)), rv b147, iv (0 : Int32), .unset] [(.int (0 : Int32))])) t → Steps p.tables e below (s₁.setTop (entryFrame m #[(.int p0), (.int p1), (.int p2), (.int p3), (.int p4), (.int p5)] maxLocals)) t := by
                    intro t kt
                    refine pre157 _ ?_
                    show Steps p.tables e below (T151.setTop (mkF m 291 #[iv p0, iv p1, iv p2, iv p3, iv p4, iv p5, iv ra, iv rb, iv ib, iv cb, iv ca0, iv ca1, iv cb0, iv cb1, iv (1 : Int32), iv (0 : Int32), rv x125, rv x127, rv b129, iv (((p5.toUInt32 >>> ((5 : Int32) &&& 31).toUInt32).toInt32) &&& (3 : Int32)), rv b147, iv (0 : Int32), .unset] [(.int ib), (.int p1)])) _
                    refine XS.icmpNo X151.here hx rfl (hb hby at_291) rfl (teq hc291).2 ?_
                    show Steps p.tables e below (T151.setTop (mkF m 294 #[iv p0, iv p1, iv p2, iv p3, iv p4, iv p5, iv ra, iv rb, iv ib, iv cb, iv ca0, iv ca1, iv cb0, iv cb1, iv (1 : Int32), iv (0 : Int32), rv x125, rv x127, rv b129, iv (((p5.toUInt32 >>> ((5 : Int32) &&& 31).toUInt32).toInt32) &&& (3 : Int32)), rv b147, iv (0 : Int32), .unset] [])) _
                    refine XS.iload X151.here hx rfl (hb hby at_294) rfl ?_
                    show Steps p.tables e below (T151.setTop (mkF m 296 #[iv p0, iv p1, iv p2, iv p3, iv p4, iv p5, iv ra, iv rb, iv ib, iv cb, iv ca0, iv ca1, iv cb0, iv cb1, iv (1 : Int32), iv (0 : Int32), rv x125, rv x127, rv b129, iv (((p5.toUInt32 >>> ((5 : Int32) &&& 31).toUInt32).toInt32) &&& (3 : Int32)), rv b147, iv (0 : Int32), .unset] [(.int (0 : Int32))])) _
                    refine XS.ifYes X151.here hx rfl (pc0 := 296) (pc' := 303) rfl (hb hby at_296) rfl ((if0 _ _).trans (teq (by decide)).1) (by decide) (by decide) ?_
                    show Steps p.tables e below (T151.setTop (mkF m 303 #[iv p0, iv p1, iv p2, iv p3, iv p4, iv p5, iv ra, iv rb, iv ib, iv cb, iv ca0, iv ca1, iv cb0, iv cb1, iv (1 : Int32), iv (0 : Int32), rv x125, rv x127, rv b129, iv (((p5.toUInt32 >>> ((5 : Int32) &&& 31).toUInt32).toInt32) &&& (3 : Int32)), rv b147, iv (0 : Int32), .unset] [])) _
                    refine XS.iconst X151.here hx rfl (hb hby at_303) ?_
                    exact kt
                  exact ⟨Or.inl ⟨hc285, hc291⟩, pre158⟩
                · have pre159 : ∀ t, Steps p.tables e below (T151.setTop (mkF m 304 #[iv p0, iv p1, iv p2, iv p3, iv p4, iv p5, iv ra, iv rb, iv ib, iv cb, iv ca0, iv ca1, iv cb0, iv cb1, iv (1 : Int32), iv (0 : Int32), rv x125, rv x127, rv b129, iv (((p5.toUInt32 >>> ((5 : Int32) &&& 31).toUInt32).toInt32) &&& (3 : Int32)), rv b147, iv (0 : Int32), .unset] [(.int (0 : Int32))])) t → Steps p.tables e below (s₁.setTop (entryFrame m #[(.int p0), (.int p1), (.int p2), (.int p3), (.int p4), (.int p5)] maxLocals)) t := by
                    intro t kt
                    refine pre157 _ ?_
                    show Steps p.tables e below (T151.setTop (mkF m 291 #[iv p0, iv p1, iv p2, iv p3, iv p4, iv p5, iv ra, iv rb, iv ib, iv cb, iv ca0, iv ca1, iv cb0, iv cb1, iv (1 : Int32), iv (0 : Int32), rv x125, rv x127, rv b129, iv (((p5.toUInt32 >>> ((5 : Int32) &&& 31).toUInt32).toInt32) &&& (3 : Int32)), rv b147, iv (0 : Int32), .unset] [(.int ib), (.int p1)])) _
                    refine XS.icmpYes X151.here hx rfl (pc0 := 291) (pc' := 303) rfl (hb hby at_291) rfl (feq hc291).2 (by decide) (by decide) ?_
                    show Steps p.tables e below (T151.setTop (mkF m 303 #[iv p0, iv p1, iv p2, iv p3, iv p4, iv p5, iv ra, iv rb, iv ib, iv cb, iv ca0, iv ca1, iv cb0, iv cb1, iv (1 : Int32), iv (0 : Int32), rv x125, rv x127, rv b129, iv (((p5.toUInt32 >>> ((5 : Int32) &&& 31).toUInt32).toInt32) &&& (3 : Int32)), rv b147, iv (0 : Int32), .unset] [])) _
                    refine XS.iconst X151.here hx rfl (hb hby at_303) ?_
                    exact kt
                  exact ⟨Or.inr (Or.inl ⟨hc285, hc291⟩), pre159⟩
              · have pre160 : ∀ t, Steps p.tables e below (T151.setTop (mkF m 304 #[iv p0, iv p1, iv p2, iv p3, iv p4, iv p5, iv ra, iv rb, iv ib, iv cb, iv ca0, iv ca1, iv cb0, iv cb1, iv (1 : Int32), iv (0 : Int32), rv x125, rv x127, rv b129, iv (((p5.toUInt32 >>> ((5 : Int32) &&& 31).toUInt32).toInt32) &&& (3 : Int32)), rv b147, iv (0 : Int32), .unset] [(.int (0 : Int32))])) t → Steps p.tables e below (s₁.setTop (entryFrame m #[(.int p0), (.int p1), (.int p2), (.int p3), (.int p4), (.int p5)] maxLocals)) t := by
                  intro t kt
                  refine pre156 _ ?_
                  show Steps p.tables e below (T151.setTop (mkF m 285 #[iv p0, iv p1, iv p2, iv p3, iv p4, iv p5, iv ra, iv rb, iv ib, iv cb, iv ca0, iv ca1, iv cb0, iv cb1, iv (1 : Int32), iv (0 : Int32), rv x125, rv x127, rv b129, iv (((p5.toUInt32 >>> ((5 : Int32) &&& 31).toUInt32).toInt32) &&& (3 : Int32)), rv b147, iv (0 : Int32), .unset] [(.int rb), (.int ra)])) _
                  refine XS.icmpYes X151.here hx rfl (pc0 := 285) (pc' := 303) rfl (hb hby at_285) rfl (feq hc285).2 (by decide) (by decide) ?_
                  show Steps p.tables e below (T151.setTop (mkF m 303 #[iv p0, iv p1, iv p2, iv p3, iv p4, iv p5, iv ra, iv rb, iv ib, iv cb, iv ca0, iv ca1, iv cb0, iv cb1, iv (1 : Int32), iv (0 : Int32), rv x125, rv x127, rv b129, iv (((p5.toUInt32 >>> ((5 : Int32) &&& 31).toUInt32).toInt32) &&& (3 : Int32)), rv b147, iv (0 : Int32), .unset] [])) _
                  refine XS.iconst X151.here hx rfl (hb hby at_303) ?_
                  exact kt
                exact ⟨Or.inr (Or.inr (hc285)), pre160⟩
            have pre162 : ∀ t, Steps p.tables e below (T151.setTop (mkF m 310 #[iv p0, iv p1, iv p2, iv p3, iv p4, iv p5, iv ra, iv rb, iv ib, iv cb, iv ca0, iv ca1, iv cb0, iv cb1, iv (1 : Int32), iv (0 : Int32), rv x125, rv x127, rv b129, iv (((p5.toUInt32 >>> ((5 : Int32) &&& 31).toUInt32).toInt32) &&& (3 : Int32)), rv b147, iv (0 : Int32), iv (0 : Int32)] [(.ref b147), (.ref b129)])) t → Steps p.tables e below (s₁.setTop (entryFrame m #[(.int p0), (.int p1), (.int p2), (.int p3), (.int p4), (.int p5)] maxLocals)) t := by
              intro t kt
              refine pre161 _ ?_
              show Steps p.tables e below (T151.setTop (mkF m 304 #[iv p0, iv p1, iv p2, iv p3, iv p4, iv p5, iv ra, iv rb, iv ib, iv cb, iv ca0, iv ca1, iv cb0, iv cb1, iv (1 : Int32), iv (0 : Int32), rv x125, rv x127, rv b129, iv (((p5.toUInt32 >>> ((5 : Int32) &&& 31).toUInt32).toInt32) &&& (3 : Int32)), rv b147, iv (0 : Int32), .unset] [(.int (0 : Int32))])) _
              refine XS.istore X151.here hx rfl (hb hby at_304) rfl (l' := #[iv p0, iv p1, iv p2, iv p3, iv p4, iv p5, iv ra, iv rb, iv ib, iv cb, iv ca0, iv ca1, iv cb0, iv cb1, iv (1 : Int32), iv (0 : Int32), rv x125, rv x127, rv b129, iv (((p5.toUInt32 >>> ((5 : Int32) &&& 31).toUInt32).toInt32) &&& (3 : Int32)), rv b147, iv (0 : Int32), iv (0 : Int32)]) rfl ?_
              show Steps p.tables e below (T151.setTop (mkF m 306 #[iv p0, iv p1, iv p2, iv p3, iv p4, iv p5, iv ra, iv rb, iv ib, iv cb, iv ca0, iv ca1, iv cb0, iv cb1, iv (1 : Int32), iv (0 : Int32), rv x125, rv x127, rv b129, iv (((p5.toUInt32 >>> ((5 : Int32) &&& 31).toUInt32).toInt32) &&& (3 : Int32)), rv b147, iv (0 : Int32), iv (0 : Int32)] [])) _
              refine XS.aload X151.here hx rfl (hb hby at_306) rfl rfl ?_
              show Steps p.tables e below (T151.setTop (mkF m 308 #[iv p0, iv p1, iv p2, iv p3, iv p4, iv p5, iv ra, iv rb, iv ib, iv cb, iv ca0, iv ca1, iv cb0, iv cb1, iv (1 : Int32), iv (0 : Int32), rv x125, rv x127, rv b129, iv (((p5.toUInt32 >>> ((5 : Int32) &&& 31).toUInt32).toInt32) &&& (3 : Int32)), rv b147, iv (0 : Int32), iv (0 : Int32)] [(.ref b129)])) _
              refine XS.aload X151.here hx rfl (hb hby at_308) rfl rfl ?_
              exact kt
            obtain ⟨cq163, kq163, q163a, q163b, q163c⟩ := isOf hZ rfl (((A129.keep Kc133).ext E147).keep Kc151)
            obtain ⟨_, _, ⟨T163, L163, k163, n163⟩, -, X163, ⟨Lc163, hQ163, l163, y163, z163⟩, st163⟩ := X151.virtualBack hx (y := (⟨"com/example/fair_witness/fairwitness/verifier/DecodingFailure", "equals", "(Ljava/lang/Object;)Z"⟩ : MethodName)) (z := (⟨"com/example/fair_witness/fairwitness/verifier/DecodingFailure", "equals", "(Ljava/lang/Object;)Z"⟩ : MethodName)) hown (mvT hZ (hw _ (List.mem_of_getElem? (i := 53) rfl))) (mvT hZ (hw _ (List.mem_of_getElem? (i := 54) rfl))) (notFace_of_selects (args := #[]) (mvT hZ (hw _ (List.mem_of_getElem? (i := 56) rfl)))) (mvT hZ (hw _ (List.mem_of_getElem? (i := 56) rfl))) (mvT hZ (hw _ (List.mem_of_getElem? (i := 55) rfl))) (by decide) (backOf (W := 0) (rm10v12 l Z a0 hw [] b129 b147 (own_rs aK aP aS aR ra) p1 x125 (own_rs aK aP aS aR rb) ib x127 y125 y127 ky125 ky127 (ca0.toInt8.toInt32) (cb0.toInt8.toInt32) (cb1.toInt8.toInt32) cs T151.heap n0 (Nat.le_trans Z0 K151.1) (O0.keep K151 all0) S_cs hcs ((F0_133.ext E147).keep Kc151 (ninS (Nat.ne_of_lt (Nat.lt_of_lt_of_le (A129.keep Kc133).lt (Nat.le_of_eq g147.symm))) nin0)) ((F1_133.ext E147).keep Kc151 (ninS (Nat.ne_of_lt (Nat.lt_of_lt_of_le (A129.keep Kc133).lt (Nat.le_of_eq g147.symm))) nin0)) ((F2_133.ext E147).keep Kc151 (ninS (Nat.ne_of_lt (Nat.lt_of_lt_of_le (A129.keep Kc133).lt (Nat.le_of_eq g147.symm))) nin0)) (((A129.keep Kc133).ext E147).keep Kc151) F0_151 F1_151 F2_151 (A147.keep Kc151) (((((Fv125.keep Kc127 nin0).ext E129).keep Kc133 (ninS (Nat.ne_of_lt (Nat.lt_of_lt_of_le (Ex125.keep Kc127).lt (Nat.le_of_eq g129.symm))) nin0)).ext E147).keep Kc151 (ninS (Nat.ne_of_lt (Nat.lt_of_lt_of_le (((Ex125.keep Kc127).ext E129).keep Kc133).lt (Nat.le_of_eq g147.symm))) nin0)) (((((Fc125.keep Kc127 nin0).ext E129).keep Kc133 (ninS (Nat.ne_of_lt (Nat.lt_of_lt_of_le (Ex125.keep Kc127).lt (Nat.le_of_eq g129.symm))) nin0)).ext E147).keep Kc151 (ninS (Nat.ne_of_lt (Nat.lt_of_lt_of_le (((Ex125.keep Kc127).ext E129).keep Kc133).lt (Nat.le_of_eq g147.symm))) nin0)) (((((Ex125.keep Kc127).ext E129).keep Kc133).ext E147).keep Kc151) (((((Vy125.keep Kc127 nin0).ext E129).keep Kc133 (ninS (Nat.ne_of_lt (Nat.lt_of_lt_of_le (Vy125.keep Kc127 nin0).lt (Nat.le_of_eq g129.symm))) nin0)).ext E147).keep Kc151 (ninS (Nat.ne_of_lt (Nat.lt_of_lt_of_le (((Vy125.keep Kc127 nin0).ext E129).keep Kc133 (ninS (Nat.ne_of_lt (Nat.lt_of_lt_of_le (Vy125.keep Kc127 nin0).lt (Nat.le_of_eq g129.symm))) nin0)).lt (Nat.le_of_eq g147.symm))) nin0)) ((((Fv127.ext E129).keep Kc133 (ninS (Nat.ne_of_lt (Nat.lt_of_lt_of_le Ex127.lt (Nat.le_of_eq g129.symm))) nin0)).ext E147).keep Kc151 (ninS (Nat.ne_of_lt (Nat.lt_of_lt_of_le ((Ex127.ext E129).keep Kc133).lt (Nat.le_of_eq g147.symm))) nin0)) ((((Fc127.ext E129).keep Kc133 (ninS (Nat.ne_of_lt (Nat.lt_of_lt_of_le Ex127.lt (Nat.le_of_eq g129.symm))) nin0)).ext E147).keep Kc151 (ninS (Nat.ne_of_lt (Nat.lt_of_lt_of_le ((Ex127.ext E129).keep Kc133).lt (Nat.le_of_eq g147.symm))) nin0)) ((((Ex127.ext E129).keep Kc133).ext E147).keep Kc151) ((((Vy127.ext E129).keep Kc133 (ninS (Nat.ne_of_lt (Nat.lt_of_lt_of_le Vy127.lt (Nat.le_of_eq g129.symm))) nin0)).ext E147).keep Kc151 (ninS (Nat.ne_of_lt (Nat.lt_of_lt_of_le ((Vy127.ext E129).keep Kc133 (ninS (Nat.ne_of_lt (Nat.lt_of_lt_of_le Vy127.lt (Nat.le_of_eq g129.symm))) nin0)).lt (Nat.le_of_eq g147.symm))) nin0)) ne_x125_x127) hZ (hw _ (List.mem_of_getElem? (i := 57) rfl)) (hw _ (List.mem_of_getElem? (i := 36) rfl)) (by decide) (by decide)) q163a q163c (g := (mkF m 310 #[iv p0, iv p1, iv p2, iv p3, iv p4, iv p5, iv ra, iv rb, iv ib, iv cb, iv ca0, iv ca1, iv cb0, iv cb1, iv (1 : Int32), iv (0 : Int32), rv x125, rv x127, rv b129, iv (((p5.toUInt32 >>> ((5 : Int32) &&& 31).toUInt32).toInt32) &&& (3 : Int32)), rv b147, iv (0 : Int32), iv (0 : Int32)] [(.ref b147), (.ref b129)])) rfl (by rw [hml]; rfl) (Steps.refl _) (argsL := [(.ref b147)]) (rest := []) (lenOf pd15 rfl) rfl (by show 2 * 0 + _ ≤ _; exact Nat.le_of_eq rfl) (hb hby at_310) (fun _ _ => ⟨rfl, rfl, (by decide : 7 + 0 ≤ _), (by decide : 19 + 0 ≤ _)⟩)
            dsimp only [Pt.U, Pt.locs, Pt.cells, Pt.slots] at X163 l163 y163 z163 st163 hQ163
            subst l163 y163 z163
            obtain ⟨rfl, N163q, hh163⟩ := hQ163
            have N163 := Fr.app N151 N163q
            have pre164 : ∀ t, Steps p.tables e below (T163.setTop (mkF m 315 #[iv p0, iv p1, iv p2, iv p3, iv p4, iv p5, iv ra, iv rb, iv ib, iv cb, iv ca0, iv ca1, iv cb0, iv cb1, iv (1 : Int32), iv (0 : Int32), rv x125, rv x127, rv b129, iv (((p5.toUInt32 >>> ((5 : Int32) &&& 31).toUInt32).toInt32) &&& (3 : Int32)), rv b147, iv (0 : Int32), iv (0 : Int32)] [(.int (0 : Int32)), (.int (own_de12 (own_rs aK aP aS aR ra) p1 (own_rs aK aP aS aR rb) ib (ca0.toInt8.toInt32) (cb0.toInt8.toInt32) (cb1.toInt8.toInt32)))])) t → Steps p.tables e below (s₁.setTop (entryFrame m #[(.int p0), (.int p1), (.int p2), (.int p3), (.int p4), (.int p5)] maxLocals)) t := by
              intro t kt
              refine pre162 _ ?_
              show Steps p.tables e below (T151.setTop (mkF m 310 #[iv p0, iv p1, iv p2, iv p3, iv p4, iv p5, iv ra, iv rb, iv ib, iv cb, iv ca0, iv ca1, iv cb0, iv cb1, iv (1 : Int32), iv (0 : Int32), rv x125, rv x127, rv b129, iv (((p5.toUInt32 >>> ((5 : Int32) &&& 31).toUInt32).toInt32) &&& (3 : Int32)), rv b147, iv (0 : Int32), iv (0 : Int32)] [(.ref b147), (.ref b129)])) _
              refine st163.trans ?_
              show Steps p.tables e below (T163.setTop (mkF m 313 #[iv p0, iv p1, iv p2, iv p3, iv p4, iv p5, iv ra, iv rb, iv ib, iv cb, iv ca0, iv ca1, iv cb0, iv cb1, iv (1 : Int32), iv (0 : Int32), rv x125, rv x127, rv b129, iv (((p5.toUInt32 >>> ((5 : Int32) &&& 31).toUInt32).toInt32) &&& (3 : Int32)), rv b147, iv (0 : Int32), iv (0 : Int32)] [(.int (own_de12 (own_rs aK aP aS aR ra) p1 (own_rs aK aP aS aR rb) ib (ca0.toInt8.toInt32) (cb0.toInt8.toInt32) (cb1.toInt8.toInt32)))])) _
              refine XS.iload X163.here hx rfl (hb hby at_313) rfl ?_
              exact kt
            by_cases hc315 : (own_de12 (own_rs aK aP aS aR ra) p1 (own_rs aK aP aS aR rb) ib (ca0.toInt8.toInt32) (cb0.toInt8.toInt32) (cb1.toInt8.toInt32)) = (0 : Int32)
            · have pre165 : ∀ t, Steps p.tables e below (T163.setTop (mkF m 322 #[iv p0, iv p1, iv p2, iv p3, iv p4, iv p5, iv ra, iv rb, iv ib, iv cb, iv ca0, iv ca1, iv cb0, iv cb1, iv (1 : Int32), iv (0 : Int32), rv x125, rv x127, rv b129, iv (((p5.toUInt32 >>> ((5 : Int32) &&& 31).toUInt32).toInt32) &&& (3 : Int32)), rv b147, iv (0 : Int32), iv (0 : Int32)] [(.ref b129), (.ref b147)])) t → Steps p.tables e below (s₁.setTop (entryFrame m #[(.int p0), (.int p1), (.int p2), (.int p3), (.int p4), (.int p5)] maxLocals)) t := by
                intro t kt
                refine pre164 _ ?_
                show Steps p.tables e below (T163.setTop (mkF m 315 #[iv p0, iv p1, iv p2, iv p3, iv p4, iv p5, iv ra, iv rb, iv ib, iv cb, iv ca0, iv ca1, iv cb0, iv cb1, iv (1 : Int32), iv (0 : Int32), rv x125, rv x127, rv b129, iv (((p5.toUInt32 >>> ((5 : Int32) &&& 31).toUInt32).toInt32) &&& (3 : Int32)), rv b147, iv (0 : Int32), iv (0 : Int32)] [(.int (0 : Int32)), (.int (own_de12 (own_rs aK aP aS aR ra) p1 (own_rs aK aP aS aR rb) ib (ca0.toInt8.toInt32) (cb0.toInt8.toInt32) (cb1.toInt8.toInt32)))])) _
                refine XS.icmpNo X163.here hx rfl (hb hby at_315) rfl (teq hc315).2 ?_
                show Steps p.tables e below (T163.setTop (mkF m 318 #[iv p0, iv p1, iv p2, iv p3, iv p4, iv p5, iv ra, iv rb, iv ib, iv cb, iv ca0, iv ca1, iv cb0, iv cb1, iv (1 : Int32), iv (0 : Int32), rv x125, rv x127, rv b129, iv (((p5.toUInt32 >>> ((5 : Int32) &&& 31).toUInt32).toInt32) &&& (3 : Int32)), rv b147, iv (0 : Int32), iv (0 : Int32)] [])) _
                refine XS.aload X163.here hx rfl (hb hby at_318) rfl rfl ?_
                show Steps p.tables e below (T163.setTop (mkF m 320 #[iv p0, iv p1, iv p2, iv p3, iv p4, iv p5, iv ra, iv rb, iv ib, iv cb, iv ca0, iv ca1, iv cb0, iv cb1, iv (1 : Int32), iv (0 : Int32), rv x125, rv x127, rv b129, iv (((p5.toUInt32 >>> ((5 : Int32) &&& 31).toUInt32).toInt32) &&& (3 : Int32)), rv b147, iv (0 : Int32), iv (0 : Int32)] [(.ref b147)])) _
                refine XS.aload X163.here hx rfl (hb hby at_320) rfl rfl ?_
                exact kt
              obtain ⟨cq166, kq166, q166a, q166b, q166c⟩ := isOf hZ hh163 (A147.keep Kc151)
              obtain ⟨_, _, ⟨T166, L166, k166, n166⟩, -, X166, ⟨Lc166, hQ166, l166, y166, z166⟩, st166⟩ := X163.virtualBack hx (y := (⟨"com/example/fair_witness/fairwitness/verifier/DecodingFailure", "equals", "(Ljava/lang/Object;)Z"⟩ : MethodName)) (z := (⟨"com/example/fair_witness/fairwitness/verifier/DecodingFailure", "equals", "(Ljava/lang/Object;)Z"⟩ : MethodName)) hown (mvT hZ (hw _ (List.mem_of_getElem? (i := 53) rfl))) (mvT hZ (hw _ (List.mem_of_getElem? (i := 54) rfl))) (notFace_of_selects (args := #[]) (mvT hZ (hw _ (List.mem_of_getElem? (i := 56) rfl)))) (mvT hZ (hw _ (List.mem_of_getElem? (i := 56) rfl))) (mvT hZ (hw _ (List.mem_of_getElem? (i := 55) rfl))) (by decide) (backOf (W := 0) (rm10v21 l Z a0 hw [] b147 b129 (own_rs aK aP aS aR rb) ib x127 (own_rs aK aP aS aR ra) p1 x125 y127 y125 ky127 ky125 (cb0.toInt8.toInt32) (cb1.toInt8.toInt32) (ca0.toInt8.toInt32) cs T151.heap n0 (Nat.le_trans Z0 K151.1) (O0.keep K151 all0) S_cs hcs F0_151 F1_151 F2_151 (A147.keep Kc151) ((F0_133.ext E147).keep Kc151 (ninS (Nat.ne_of_lt (Nat.lt_of_lt_of_le (A129.keep Kc133).lt (Nat.le_of_eq g147.symm))) nin0)) ((F1_133.ext E147).keep Kc151 (ninS (Nat.ne_of_lt (Nat.lt_of_lt_of_le (A129.keep Kc133).lt (Nat.le_of_eq g147.symm))) nin0)) ((F2_133.ext E147).keep Kc151 (ninS (Nat.ne_of_lt (Nat.lt_of_lt_of_le (A129.keep Kc133).lt (Nat.le_of_eq g147.symm))) nin0)) (((A129.keep Kc133).ext E147).keep Kc151) ((((Fv127.ext E129).keep Kc133 (ninS (Nat.ne_of_lt (Nat.lt_of_lt_of_le Ex127.lt (Nat.le_of_eq g129.symm))) nin0)).ext E147).keep Kc151 (ninS (Nat.ne_of_lt (Nat.lt_of_lt_of_le ((Ex127.ext E129).keep Kc133).lt (Nat.le_of_eq g147.symm))) nin0)) ((((Fc127.ext E129).keep Kc133 (ninS (Nat.ne_of_lt (Nat.lt_of_lt_of_le Ex127.lt (Nat.le_of_eq g129.symm))) nin0)).ext E147).keep Kc151 (ninS (Nat.ne_of_lt (Nat.lt_of_lt_of_le ((Ex127.ext E129).keep Kc133).lt (Nat.le_of_eq g147.symm))) nin0)) ((((Ex127.ext E129).keep Kc133).ext E147).keep Kc151) ((((Vy127.ext E129).keep Kc133 (ninS (Nat.ne_of_lt (Nat.lt_of_lt_of_le Vy127.lt (Nat.le_of_eq g129.symm))) nin0)).ext E147).keep Kc151 (ninS (Nat.ne_of_lt (Nat.lt_of_lt_of_le ((Vy127.ext E129).keep Kc133 (ninS (Nat.ne_of_lt (Nat.lt_of_lt_of_le Vy127.lt (Nat.le_of_eq g129.symm))) nin0)).lt (Nat.le_of_eq g147.symm))) nin0)) (((((Fv125.keep Kc127 nin0).ext E129).keep Kc133 (ninS (Nat.ne_of_lt (Nat.lt_of_lt_of_le (Ex125.keep Kc127).lt (Nat.le_of_eq g129.symm))) nin0)).ext E147).keep Kc151 (ninS (Nat.ne_of_lt (Nat.lt_of_lt_of_le (((Ex125.keep Kc127).ext E129).keep Kc133).lt (Nat.le_of_eq g147.symm))) nin0)) (((((Fc125.keep Kc127 nin0).ext E129).keep Kc133 (ninS (Nat.ne_of_lt (Nat.lt_of_lt_of_le (Ex125.keep Kc127).lt (Nat.le_of_eq g129.symm))) nin0)).ext E147).keep Kc151 (ninS (Nat.ne_of_lt (Nat.lt_of_lt_of_le (((Ex125.keep Kc127).ext E129).keep Kc133).lt (Nat.le_of_eq g147.symm))) nin0)) (((((Ex125.keep Kc127).ext E129).keep Kc133).ext E147).keep Kc151) (((((Vy125.keep Kc127 nin0).ext E129).keep Kc133 (ninS (Nat.ne_of_lt (Nat.lt_of_lt_of_le (Vy125.keep Kc127 nin0).lt (Nat.le_of_eq g129.symm))) nin0)).ext E147).keep Kc151 (ninS (Nat.ne_of_lt (Nat.lt_of_lt_of_le (((Vy125.keep Kc127 nin0).ext E129).keep Kc133 (ninS (Nat.ne_of_lt (Nat.lt_of_lt_of_le (Vy125.keep Kc127 nin0).lt (Nat.le_of_eq g129.symm))) nin0)).lt (Nat.le_of_eq g147.symm))) nin0)) (Ne.symm ne_x125_x127)) hZ (hw _ (List.mem_of_getElem? (i := 57) rfl)) (hw _ (List.mem_of_getElem? (i := 36) rfl)) (by decide) (by decide)) q166a q166c (g := (mkF m 322 #[iv p0, iv p1, iv p2, iv p3, iv p4, iv p5, iv ra, iv rb, iv ib, iv cb, iv ca0, iv ca1, iv cb0, iv cb1, iv (1 : Int32), iv (0 : Int32), rv x125, rv x127, rv b129, iv (((p5.toUInt32 >>> ((5 : Int32) &&& 31).toUInt32).toInt32) &&& (3 : Int32)), rv b147, iv (0 : Int32), iv (0 : Int32)] [(.ref b129), (.ref b147)])) rfl (by rw [hml]; rfl) (Steps.refl _) (argsL := [(.ref b129)]) (rest := []) (lenOf pd15 rfl) rfl (by show 2 * 0 + _ ≤ _; exact Nat.le_of_eq rfl) (hb hby at_322) (fun _ _ => ⟨rfl, hh163, (by decide : 7 + 0 ≤ _), (by decide : 19 + 0 ≤ _)⟩)
              dsimp only [Pt.U, Pt.locs, Pt.cells, Pt.slots] at X166 l166 y166 z166 st166 hQ166
              subst l166 y166 z166
              obtain ⟨rfl, N166q, hh166⟩ := hQ166
              have N166 := Fr.app N163 N166q
              have pre167 : ∀ t, Steps p.tables e below (T166.setTop (mkF m 327 #[iv p0, iv p1, iv p2, iv p3, iv p4, iv p5, iv ra, iv rb, iv ib, iv cb, iv ca0, iv ca1, iv cb0, iv cb1, iv (1 : Int32), iv (0 : Int32), rv x125, rv x127, rv b129, iv (((p5.toUInt32 >>> ((5 : Int32) &&& 31).toUInt32).toInt32) &&& (3 : Int32)), rv b147, iv (0 : Int32), iv (0 : Int32)] [(.int (0 : Int32)), (.int (own_de21 (own_rs aK aP aS aR rb) ib (own_rs aK aP aS aR ra) p1 (cb0.toInt8.toInt32) (cb1.toInt8.toInt32) (ca0.toInt8.toInt32)))])) t → Steps p.tables e below (s₁.setTop (entryFrame m #[(.int p0), (.int p1), (.int p2), (.int p3), (.int p4), (.int p5)] maxLocals)) t := by
                intro t kt
                refine pre165 _ ?_
                show Steps p.tables e below (T163.setTop (mkF m 322 #[iv p0, iv p1, iv p2, iv p3, iv p4, iv p5, iv ra, iv rb, iv ib, iv cb, iv ca0, iv ca1, iv cb0, iv cb1, iv (1 : Int32), iv (0 : Int32), rv x125, rv x127, rv b129, iv (((p5.toUInt32 >>> ((5 : Int32) &&& 31).toUInt32).toInt32) &&& (3 : Int32)), rv b147, iv (0 : Int32), iv (0 : Int32)] [(.ref b129), (.ref b147)])) _
                refine st166.trans ?_
                show Steps p.tables e below (T166.setTop (mkF m 325 #[iv p0, iv p1, iv p2, iv p3, iv p4, iv p5, iv ra, iv rb, iv ib, iv cb, iv ca0, iv ca1, iv cb0, iv cb1, iv (1 : Int32), iv (0 : Int32), rv x125, rv x127, rv b129, iv (((p5.toUInt32 >>> ((5 : Int32) &&& 31).toUInt32).toInt32) &&& (3 : Int32)), rv b147, iv (0 : Int32), iv (0 : Int32)] [(.int (own_de21 (own_rs aK aP aS aR rb) ib (own_rs aK aP aS aR ra) p1 (cb0.toInt8.toInt32) (cb1.toInt8.toInt32) (ca0.toInt8.toInt32)))])) _
                refine XS.iload X166.here hx rfl (hb hby at_325) rfl ?_
                exact kt
              by_cases hc327 : (own_de21 (own_rs aK aP aS aR rb) ib (own_rs aK aP aS aR ra) p1 (cb0.toInt8.toInt32) (cb1.toInt8.toInt32) (ca0.toInt8.toInt32)) = (0 : Int32)
              · have pre168 : ∀ t, Steps p.tables e below (T166.setTop (mkF m 335 #[iv p0, iv p1, iv p2, iv p3, iv p4, iv p5, iv ra, iv rb, iv ib, iv cb, iv ca0, iv ca1, iv cb0, iv cb1, iv (1 : Int32), iv (0 : Int32), rv x125, rv x127, rv b129, iv (((p5.toUInt32 >>> ((5 : Int32) &&& 31).toUInt32).toInt32) &&& (3 : Int32)), rv b147, iv (0 : Int32), iv (0 : Int32)] [(.int (1 : Int32))])) t → Steps p.tables e below (s₁.setTop (entryFrame m #[(.int p0), (.int p1), (.int p2), (.int p3), (.int p4), (.int p5)] maxLocals)) t := by
                  intro t kt
                  refine pre167 _ ?_
                  show Steps p.tables e below (T166.setTop (mkF m 327 #[iv p0, iv p1, iv p2, iv p3, iv p4, iv p5, iv ra, iv rb, iv ib, iv cb, iv ca0, iv ca1, iv cb0, iv cb1, iv (1 : Int32), iv (0 : Int32), rv x125, rv x127, rv b129, iv (((p5.toUInt32 >>> ((5 : Int32) &&& 31).toUInt32).toInt32) &&& (3 : Int32)), rv b147, iv (0 : Int32), iv (0 : Int32)] [(.int (0 : Int32)), (.int (own_de21 (own_rs aK aP aS aR rb) ib (own_rs aK aP aS aR ra) p1 (cb0.toInt8.toInt32) (cb1.toInt8.toInt32) (ca0.toInt8.toInt32)))])) _
                  refine XS.icmpNo X166.here hx rfl (hb hby at_327) rfl (teq hc327).2 ?_
                  show Steps p.tables e below (T166.setTop (mkF m 330 #[iv p0, iv p1, iv p2, iv p3, iv p4, iv p5, iv ra, iv rb, iv ib, iv cb, iv ca0, iv ca1, iv cb0, iv cb1, iv (1 : Int32), iv (0 : Int32), rv x125, rv x127, rv b129, iv (((p5.toUInt32 >>> ((5 : Int32) &&& 31).toUInt32).toInt32) &&& (3 : Int32)), rv b147, iv (0 : Int32), iv (0 : Int32)] [])) _
                  refine XS.iconst X166.here hx rfl (hb hby at_330) ?_
                  show Steps p.tables e below (T166.setTop (mkF m 331 #[iv p0, iv p1, iv p2, iv p3, iv p4, iv p5, iv ra, iv rb, iv ib, iv cb, iv ca0, iv ca1, iv cb0, iv cb1, iv (1 : Int32), iv (0 : Int32), rv x125, rv x127, rv b129, iv (((p5.toUInt32 >>> ((5 : Int32) &&& 31).toUInt32).toInt32) &&& (3 : Int32)), rv b147, iv (0 : Int32), iv (0 : Int32)] [(.int (1 : Int32))])) _
                  refine XS.goto X166.here hx rfl (pc0 := 331) (pc' := 335) rfl (hb hby at_331) (by decide) (by decide) ?_
                  exact kt
                obtain ⟨fs, hr, hrun, hended, hW, hsame⟩ := X166.leave (v := some (.int (1 : Int32))) (fun h => by rw [Bd.returns] at h; cases h)
                refine ⟨_, _, pre168 _ ?_, hrun, hended, _, _, rfl, ?_, ⟨_, rfl⟩, hW, hsame.mono (by decide) (by decide)⟩
                · show Steps p.tables e below (T166.setTop (mkF m 335 #[iv p0, iv p1, iv p2, iv p3, iv p4, iv p5, iv ra, iv rb, iv ib, iv cb, iv ca0, iv ca1, iv cb0, iv cb1, iv (1 : Int32), iv (0 : Int32), rv x125, rv x127, rv b129, iv (((p5.toUInt32 >>> ((5 : Int32) &&& 31).toUInt32).toInt32) &&& (3 : Int32)), rv b147, iv (0 : Int32), iv (0 : Int32)] [(.int (1 : Int32))])) _
                  exact retN X166 hx (t := .boolean) Bd.returns (by simp) (hb hby at_335) hr
                · show Q0 Z p0 p1 p2 p3 p4 p5 aK aP aS aR cs h0 n0 _ T166.heap _
                  rw [hh166]
                  exact ⟨rfl, N166⟩
              · have pre169 : ∀ t, Steps p.tables e below (T166.setTop (mkF m 335 #[iv p0, iv p1, iv p2, iv p3, iv p4, iv p5, iv ra, iv rb, iv ib, iv cb, iv ca0, iv ca1, iv cb0, iv cb1, iv (1 : Int32), iv (0 : Int32), rv x125, rv x127, rv b129, iv (((p5.toUInt32 >>> ((5 : Int32) &&& 31).toUInt32).toInt32) &&& (3 : Int32)), rv b147, iv (0 : Int32), iv (0 : Int32)] [(.int (0 : Int32))])) t → Steps p.tables e below (s₁.setTop (entryFrame m #[(.int p0), (.int p1), (.int p2), (.int p3), (.int p4), (.int p5)] maxLocals)) t := by
                  intro t kt
                  refine pre167 _ ?_
                  show Steps p.tables e below (T166.setTop (mkF m 327 #[iv p0, iv p1, iv p2, iv p3, iv p4, iv p5, iv ra, iv rb, iv ib, iv cb, iv ca0, iv ca1, iv cb0, iv cb1, iv (1 : Int32), iv (0 : Int32), rv x125, rv x127, rv b129, iv (((p5.toUInt32 >>> ((5 : Int32) &&& 31).toUInt32).toInt32) &&& (3 : Int32)), rv b147, iv (0 : Int32), iv (0 : Int32)] [(.int (0 : Int32)), (.int (own_de21 (own_rs aK aP aS aR rb) ib (own_rs aK aP aS aR ra) p1 (cb0.toInt8.toInt32) (cb1.toInt8.toInt32) (ca0.toInt8.toInt32)))])) _
                  refine XS.icmpYes X166.here hx rfl (pc0 := 327) (pc' := 334) rfl (hb hby at_327) rfl (feq hc327).2 (by decide) (by decide) ?_
                  show Steps p.tables e below (T166.setTop (mkF m 334 #[iv p0, iv p1, iv p2, iv p3, iv p4, iv p5, iv ra, iv rb, iv ib, iv cb, iv ca0, iv ca1, iv cb0, iv cb1, iv (1 : Int32), iv (0 : Int32), rv x125, rv x127, rv b129, iv (((p5.toUInt32 >>> ((5 : Int32) &&& 31).toUInt32).toInt32) &&& (3 : Int32)), rv b147, iv (0 : Int32), iv (0 : Int32)] [])) _
                  refine XS.iconst X166.here hx rfl (hb hby at_334) ?_
                  exact kt
                exfalso
                exact hc327 (by first | exact own_fin12 _ _ _ _ _ _ _ | exact own_fin21 _ _ _ _ _ _ _)
            · have pre170 : ∀ t, Steps p.tables e below (T163.setTop (mkF m 335 #[iv p0, iv p1, iv p2, iv p3, iv p4, iv p5, iv ra, iv rb, iv ib, iv cb, iv ca0, iv ca1, iv cb0, iv cb1, iv (1 : Int32), iv (0 : Int32), rv x125, rv x127, rv b129, iv (((p5.toUInt32 >>> ((5 : Int32) &&& 31).toUInt32).toInt32) &&& (3 : Int32)), rv b147, iv (0 : Int32), iv (0 : Int32)] [(.int (0 : Int32))])) t → Steps p.tables e below (s₁.setTop (entryFrame m #[(.int p0), (.int p1), (.int p2), (.int p3), (.int p4), (.int p5)] maxLocals)) t := by
                intro t kt
                refine pre164 _ ?_
                show Steps p.tables e below (T163.setTop (mkF m 315 #[iv p0, iv p1, iv p2, iv p3, iv p4, iv p5, iv ra, iv rb, iv ib, iv cb, iv ca0, iv ca1, iv cb0, iv cb1, iv (1 : Int32), iv (0 : Int32), rv x125, rv x127, rv b129, iv (((p5.toUInt32 >>> ((5 : Int32) &&& 31).toUInt32).toInt32) &&& (3 : Int32)), rv b147, iv (0 : Int32), iv (0 : Int32)] [(.int (0 : Int32)), (.int (own_de12 (own_rs aK aP aS aR ra) p1 (own_rs aK aP aS aR rb) ib (ca0.toInt8.toInt32) (cb0.toInt8.toInt32) (cb1.toInt8.toInt32)))])) _
                refine XS.icmpYes X163.here hx rfl (pc0 := 315) (pc' := 334) rfl (hb hby at_315) rfl (feq hc315).2 (by decide) (by decide) ?_
                show Steps p.tables e below (T163.setTop (mkF m 334 #[iv p0, iv p1, iv p2, iv p3, iv p4, iv p5, iv ra, iv rb, iv ib, iv cb, iv ca0, iv ca1, iv cb0, iv cb1, iv (1 : Int32), iv (0 : Int32), rv x125, rv x127, rv b129, iv (((p5.toUInt32 >>> ((5 : Int32) &&& 31).toUInt32).toInt32) &&& (3 : Int32)), rv b147, iv (0 : Int32), iv (0 : Int32)] [])) _
                refine XS.iconst X163.here hx rfl (hb hby at_334) ?_
                exact kt
              exfalso
              exact hc315 (by first | exact own_fin12 _ _ _ _ _ _ _ | exact own_fin21 _ _ _ _ _ _ _)
    · have pre171 : ∀ t, Steps p.tables e below (s₁.setTop (mkF m 129 #[iv p0, iv p1, iv p2, iv p3, iv p4, iv p5, iv ra, iv rb, iv ib, iv cb, iv ca0, iv ca1, iv cb0, iv cb1, iv (1 : Int32), iv (1 : Int32), .unset, .unset, .unset, .unset, .unset, .unset, .unset] [(.int ca1), (.int ca0), (.int (1 : Int32))])) t → Steps p.tables e below (s₁.setTop (entryFrame m #[(.int p0), (.int p1), (.int p2), (.int p3), (.int p4), (.int p5)] maxLocals)) t := by
        intro t kt
        refine pre123 _ ?_
        show Steps p.tables e below (s₁.setTop (mkF m 113 #[iv p0, iv p1, iv p2, iv p3, iv p4, iv p5, iv ra, iv rb, iv ib, iv cb, iv ca0, iv ca1, iv cb0, iv cb1, iv (1 : Int32), .unset, .unset, .unset, .unset, .unset, .unset, .unset, .unset] [(.int (p5 &&& (16 : Int32)))])) _
        refine XS.ifNo X0.here hx rfl (hb hby at_113) rfl ((if0 _ _).trans (feq hc113).1) ?_
        show Steps p.tables e below (s₁.setTop (mkF m 116 #[iv p0, iv p1, iv p2, iv p3, iv p4, iv p5, iv ra, iv rb, iv ib, iv cb, iv ca0, iv ca1, iv cb0, iv cb1, iv (1 : Int32), .unset, .unset, .unset, .unset, .unset, .unset, .unset, .unset] [])) _
        refine XS.iconst X0.here hx rfl (hb hby at_116) ?_
        show Steps p.tables e below (s₁.setTop (mkF m 117 #[iv p0, iv p1, iv p2, iv p3, iv p4, iv p5, iv ra, iv rb, iv ib, iv cb, iv ca0, iv ca1, iv cb0, iv cb1, iv (1 : Int32), .unset, .unset, .unset, .unset, .unset, .unset, .unset, .unset] [(.int (1 : Int32))])) _
        refine XS.goto X0.here hx rfl (pc0 := 117) (pc' := 121) rfl (hb hby at_117) (by decide) (by decide) ?_
        show Steps p.tables e below (s₁.setTop (mkF m 121 #[iv p0, iv p1, iv p2, iv p3, iv p4, iv p5, iv ra, iv rb, iv ib, iv cb, iv ca0, iv ca1, iv cb0, iv cb1, iv (1 : Int32), .unset, .unset, .unset, .unset, .unset, .unset, .unset, .unset] [(.int (1 : Int32))])) _
        refine XS.istore X0.here hx rfl (hb hby at_121) rfl (l' := #[iv p0, iv p1, iv p2, iv p3, iv p4, iv p5, iv ra, iv rb, iv ib, iv cb, iv ca0, iv ca1, iv cb0, iv cb1, iv (1 : Int32), iv (1 : Int32), .unset, .unset, .unset, .unset, .unset, .unset, .unset]) rfl ?_
        show Steps p.tables e below (s₁.setTop (mkF m 123 #[iv p0, iv p1, iv p2, iv p3, iv p4, iv p5, iv ra, iv rb, iv ib, iv cb, iv ca0, iv ca1, iv cb0, iv cb1, iv (1 : Int32), iv (1 : Int32), .unset, .unset, .unset, .unset, .unset, .unset, .unset] [])) _
        refine XS.iload X0.here hx rfl (hb hby at_123) rfl ?_
        show Steps p.tables e below (s₁.setTop (mkF m 125 #[iv p0, iv p1, iv p2, iv p3, iv p4, iv p5, iv ra, iv rb, iv ib, iv cb, iv ca0, iv ca1, iv cb0, iv cb1, iv (1 : Int32), iv (1 : Int32), .unset, .unset, .unset, .unset, .unset, .unset, .unset] [(.int (1 : Int32))])) _
        refine XS.iload X0.here hx rfl (hb hby at_125) rfl ?_
        show Steps p.tables e below (s₁.setTop (mkF m 127 #[iv p0, iv p1, iv p2, iv p3, iv p4, iv p5, iv ra, iv rb, iv ib, iv cb, iv ca0, iv ca1, iv cb0, iv cb1, iv (1 : Int32), iv (1 : Int32), .unset, .unset, .unset, .unset, .unset, .unset, .unset] [(.int ca0), (.int (1 : Int32))])) _
        refine XS.iload X0.here hx rfl (hb hby at_127) rfl ?_
        exact kt
      obtain ⟨_, _, ⟨T172, L172, k172, n172⟩, -, X172, ⟨Lc172, hQ172, l172, y172, z172⟩, st172⟩ := Jvm.LawKit.callS X0 hx (y := (⟨"com/example/fair_witness/fairwitness/verifier/DecodingFailureEqualsPinLaw", "text", "(ZCC)Ljava/lang/String;"⟩ : MethodName)) hown (mvT hZ (hw _ (List.mem_of_getElem? (i := 0) rfl))) (mvT hZ (hw _ (List.mem_of_getElem? (i := 1) rfl))) (mvT hZ (hw _ (List.mem_of_getElem? (i := 2) rfl))) (mvT hZ (hw _ (List.mem_of_getElem? (i := 3) rfl))) (by decide) (backOf (W := 0) (rm1s l Z a0 hw [] ca0 ca1 cs h0 n0 (Nat.le_trans Z0 (Keep.refl h0 []).1) (O0.keep (Keep.refl h0 []) all0) S_cs hcs (h_ca0 ▸ own_ch _).1) hZ (hw _ (List.mem_of_getElem? (i := 3) rfl)) (hw _ (List.mem_of_getElem? (i := 2) rfl)) (by decide) (by decide)) (g := (mkF m 129 #[iv p0, iv p1, iv p2, iv p3, iv p4, iv p5, iv ra, iv rb, iv ib, iv cb, iv ca0, iv ca1, iv cb0, iv cb1, iv (1 : Int32), iv (1 : Int32), .unset, .unset, .unset, .unset, .unset, .unset, .unset] [(.int ca1), (.int ca0), (.int (1 : Int32))])) rfl (by rw [hml]; rfl) (argsL := [(.int (1 : Int32)), (.int ca0), (.int ca1)]) (rest := []) (lenOf pd16 rfl) rfl (by show 2 * 0 + _ ≤ _; exact Nat.le_of_eq rfl) (hb hby at_129) (fun _ _ => ⟨rfl, e0, (by decide : 0 + 2 ≤ _), (by decide : 0 + 5 ≤ _)⟩)
      dsimp only [Pt.U, Pt.locs, Pt.cells, Pt.slots] at X172 l172 y172 z172 st172 hQ172
      subst l172 y172 z172
      obtain ⟨x172, y172, ky172, rfl, N172q, Kc172, hx172, hy172, Ex172, Fv172, Fc172, Vy172⟩ := hQ172
      have N172 := Fr.app N0 N172q
      have K172 : Keep h0 T172.heap [] := (Keep.refl h0 []).trans Kc172 all0
      have g_x172 : n0 ≤ x172 := Nat.le_trans (Nat.le_trans Z0 (Keep.refl h0 []).1) hx172
      have sz_x172 : h0.size ≤ x172 := Nat.le_trans (Keep.refl h0 []).1 hx172
      have g_y172 : n0 ≤ y172 := Nat.le_trans (Nat.le_trans Z0 (Keep.refl h0 []).1) hy172
      have sz_y172 : h0.size ≤ y172 := Nat.le_trans (Keep.refl h0 []).1 hy172
      have pre173 : ∀ t, Steps p.tables e below (T172.setTop (mkF m 140 #[iv p0, iv p1, iv p2, iv p3, iv p4, iv p5, iv ra, iv rb, iv ib, iv cb, iv ca0, iv ca1, iv cb0, iv cb1, iv (1 : Int32), iv (1 : Int32), rv x172, .unset, .unset, .unset, .unset, .unset, .unset] [(.int cb1), (.int cb0), (.int (1 : Int32))])) t → Steps p.tables e below (s₁.setTop (entryFrame m #[(.int p0), (.int p1), (.int p2), (.int p3), (.int p4), (.int p5)] maxLocals)) t := by
        intro t kt
        refine pre171 _ ?_
        show Steps p.tables e below (s₁.setTop (mkF m 129 #[iv p0, iv p1, iv p2, iv p3, iv p4, iv p5, iv ra, iv rb, iv ib, iv cb, iv ca0, iv ca1, iv cb0, iv cb1, iv (1 : Int32), iv (1 : Int32), .unset, .unset, .unset, .unset, .unset, .unset, .unset] [(.int ca1), (.int ca0), (.int (1 : Int32))])) _
        refine st172 _ ?_
        show Steps p.tables e below (T172.setTop (mkF m 132 #[iv p0, iv p1, iv p2, iv p3, iv p4, iv p5, iv ra, iv rb, iv ib, iv cb, iv ca0, iv ca1, iv cb0, iv cb1, iv (1 : Int32), iv (1 : Int32), .unset, .unset, .unset, .unset, .unset, .unset, .unset] [(.ref x172)])) _
        refine XS.astore X172.here hx rfl (hb hby at_132) rfl rfl (l' := #[iv p0, iv p1, iv p2, iv p3, iv p4, iv p5, iv ra, iv rb, iv ib, iv cb, iv ca0, iv ca1, iv cb0, iv cb1, iv (1 : Int32), iv (1 : Int32), rv x172, .unset, .unset, .unset, .unset, .unset, .unset]) rfl ?_
        show Steps p.tables e below (T172.setTop (mkF m 134 #[iv p0, iv p1, iv p2, iv p3, iv p4, iv p5, iv ra, iv rb, iv ib, iv cb, iv ca0, iv ca1, iv cb0, iv cb1, iv (1 : Int32), iv (1 : Int32), rv x172, .unset, .unset, .unset, .unset, .unset, .unset] [])) _
        refine XS.iload X172.here hx rfl (hb hby at_134) rfl ?_
        show Steps p.tables e below (T172.setTop (mkF m 136 #[iv p0, iv p1, iv p2, iv p3, iv p4, iv p5, iv ra, iv rb, iv ib, iv cb, iv ca0, iv ca1, iv cb0, iv cb1, iv (1 : Int32), iv (1 : Int32), rv x172, .unset, .unset, .unset, .unset, .unset, .unset] [(.int (1 : Int32))])) _
        refine XS.iload X172.here hx rfl (hb hby at_136) rfl ?_
        show Steps p.tables e below (T172.setTop (mkF m 138 #[iv p0, iv p1, iv p2, iv p3, iv p4, iv p5, iv ra, iv rb, iv ib, iv cb, iv ca0, iv ca1, iv cb0, iv cb1, iv (1 : Int32), iv (1 : Int32), rv x172, .unset, .unset, .unset, .unset, .unset, .unset] [(.int cb0), (.int (1 : Int32))])) _
        refine XS.iload X172.here hx rfl (hb hby at_138) rfl ?_
        exact kt
      obtain ⟨_, _, ⟨T174, L174, k174, n174⟩, -, X174, ⟨Lc174, hQ174, l174, y174, z174⟩, st174⟩ := Jvm.LawKit.callS X172 hx (y := (⟨"com/example/fair_witness/fairwitness/verifier/DecodingFailureEqualsPinLaw", "text", "(ZCC)Ljava/lang/String;"⟩ : MethodName)) hown (mvT hZ (hw _ (List.mem_of_getElem? (i := 0) rfl))) (mvT hZ (hw _ (List.mem_of_getElem? (i := 1) rfl))) (mvT hZ (hw _ (List.mem_of_getElem? (i := 2) rfl))) (mvT hZ (hw _ (List.mem_of_getElem? (i := 3) rfl))) (by decide) (backOf (W := 0) (rm1s l Z a0 hw [] cb0 cb1 cs T172.heap n0 (Nat.le_trans Z0 K172.1) (O0.keep K172 all0) S_cs hcs (h_cb0 ▸ own_ch _).1) hZ (hw _ (List.mem_of_getElem? (i := 3) rfl)) (hw _ (List.mem_of_getElem? (i := 2) rfl)) (by decide) (by decide)) (g := (mkF m 140 #[iv p0, iv p1, iv p2, iv p3, iv p4, iv p5, iv ra, iv rb, iv ib, iv cb, iv ca0, iv ca1, iv cb0, iv cb1, iv (1 : Int32), iv (1 : Int32), rv x172, .unset, .unset, .unset, .unset, .unset, .unset] [(.int cb1), (.int cb0), (.int (1 : Int32))])) rfl (by rw [hml]; rfl) (argsL := [(.int (1 : Int32)), (.int cb0), (.int cb1)]) (rest := []) (lenOf pd16 rfl) rfl (by show 2 * 0 + _ ≤ _; exact Nat.le_of_eq rfl) (hb hby at_140) (fun _ _ => ⟨rfl, rfl, (by decide : 2 + 2 ≤ _), (by decide : 5 + 5 ≤ _)⟩)
      dsimp only [Pt.U, Pt.locs, Pt.cells, Pt.slots] at X174 l174 y174 z174 st174 hQ174
      subst l174 y174 z174
      obtain ⟨x174, y174, ky174, rfl, N174q, Kc174, hx174, hy174, Ex174, Fv174, Fc174, Vy174⟩ := hQ174
      have N174 := Fr.app N172 N174q
      have K174 : Keep h0 T174.heap [] := K172.trans Kc174 all0
      have g_x174 : n0 ≤ x174 := Nat.le_trans (Nat.le_trans Z0 K172.1) hx174
      have sz_x174 : h0.size ≤ x174 := Nat.le_trans K172.1 hx174
      have g_y174 : n0 ≤ y174 := Nat.le_trans (Nat.le_trans Z0 K172.1) hy174
      have sz_y174 : h0.size ≤ y174 := Nat.le_trans K172.1 hy174
      have ne_x172_x174 : x172 ≠ x174 := Nat.ne_of_lt (Nat.lt_of_lt_of_le Ex172.lt hx174)
      have pre175 : ∀ t, Steps p.tables e below (T174.setTop (mkF m 145 #[iv p0, iv p1, iv p2, iv p3, iv p4, iv p5, iv ra, iv rb, iv ib, iv cb, iv ca0, iv ca1, iv cb0, iv cb1, iv (1 : Int32), iv (1 : Int32), rv x172, rv x174, .unset, .unset, .unset, .unset, .unset] [])) t → Steps p.tables e below (s₁.setTop (entryFrame m #[(.int p0), (.int p1), (.int p2), (.int p3), (.int p4), (.int p5)] maxLocals)) t := by
        intro t kt
        refine pre173 _ ?_
        show Steps p.tables e below (T172.setTop (mkF m 140 #[iv p0, iv p1, iv p2, iv p3, iv p4, iv p5, iv ra, iv rb, iv ib, iv cb, iv ca0, iv ca1, iv cb0, iv cb1, iv (1 : Int32), iv (1 : Int32), rv x172, .unset, .unset, .unset, .unset, .unset, .unset] [(.int cb1), (.int cb0), (.int (1 : Int32))])) _
        refine st174 _ ?_
        show Steps p.tables e below (T174.setTop (mkF m 143 #[iv p0, iv p1, iv p2, iv p3, iv p4, iv p5, iv ra, iv rb, iv ib, iv cb, iv ca0, iv ca1, iv cb0, iv cb1, iv (1 : Int32), iv (1 : Int32), rv x172, .unset, .unset, .unset, .unset, .unset, .unset] [(.ref x174)])) _
        refine XS.astore X174.here hx rfl (hb hby at_143) rfl rfl (l' := #[iv p0, iv p1, iv p2, iv p3, iv p4, iv p5, iv ra, iv rb, iv ib, iv cb, iv ca0, iv ca1, iv cb0, iv cb1, iv (1 : Int32), iv (1 : Int32), rv x172, rv x174, .unset, .unset, .unset, .unset, .unset]) rfl ?_
        exact kt
      obtain ⟨T176, h176, X176, e176, E176, A176, D176, -, st176⟩ := newO X174 hx hZ hown (hw _ (List.mem_of_getElem? (i := 34) rfl)) (hw _ (List.mem_of_getElem? (i := 35) rfl)) (hw _ (List.mem_of_getElem? (i := 36) rfl)) rfl (g := (mkF m 145 #[iv p0, iv p1, iv p2, iv p3, iv p4, iv p5, iv ra, iv rb, iv ib, iv cb, iv ca0, iv ca1, iv cb0, iv cb1, iv (1 : Int32), iv (1 : Int32), rv x172, rv x174, .unset, .unset, .unset, .unset, .unset] [])) rfl (hb hby at_145) (by decide) (by decide)
      obtain ⟨b176, g176⟩ : ∃ z, z = T174.heap.size := ⟨_, rfl⟩
      rw [← g176] at A176 D176 st176
      have g_b176 : n0 ≤ b176 := Nat.le_trans (Nat.le_trans Z0 K174.1) (Nat.le_of_eq g176.symm)
      have sz_b176 : h0.size ≤ b176 := Nat.le_trans K174.1 (Nat.le_of_eq g176.symm)
      have F_reason_b176 : Fld Z h176 b176 "com/example/fair_witness/fairwitness/verifier/DecodingFailure" "reason" "Lcom/example/fair_witness/fairwitness/verifier/Reason;" .null := D176 (Or.inr (hw _ (List.mem_of_getElem? (i := 48) rfl))) (ty := (.object "com/example/fair_witness/fairwitness/verifier/Reason")) (by decide)
      have F_certificateIndex_b176 : Fld Z h176 b176 "com/example/fair_witness/fairwitness/verifier/DecodingFailure" "certificateIndex" "I" (.int (0 : Int32)) := D176 (Or.inr (hw _ (List.mem_of_getElem? (i := 50) rfl))) (ty := .int) (by decide)
      have F_detail_b176 : Fld Z h176 b176 "com/example/fair_witness/fairwitness/verifier/DecodingFailure" "detail" "Ljava/lang/String;" .null := D176 (Or.inr (hw _ (List.mem_of_getElem? (i := 52) rfl))) (ty := (.object "java/lang/String")) (by decide)
      have K176 : Keep h0 h176 [] := K174.ext E176
      have pre177 : ∀ t, Steps p.tables e below (T176.setTop (mkF m 151 #[iv p0, iv p1, iv p2, iv p3, iv p4, iv p5, iv ra, iv rb, iv ib, iv cb, iv ca0, iv ca1, iv cb0, iv cb1, iv (1 : Int32), iv (1 : Int32), rv x172, rv x174, .unset, .unset, .unset, .unset, .unset] [(.int ra), (.ref b176), (.ref b176)])) t → Steps p.tables e below (s₁.setTop (entryFrame m #[(.int p0), (.int p1), (.int p2), (.int p3), (.int p4), (.int p5)] maxLocals)) t := by
        intro t kt
        refine pre175 _ ?_
        show Steps p.tables e below (T174.setTop (mkF m 145 #[iv p0, iv p1, iv p2, iv p3, iv p4, iv p5, iv ra, iv rb, iv ib, iv cb, iv ca0, iv ca1, iv cb0, iv cb1, iv (1 : Int32), iv (1 : Int32), rv x172, rv x174, .unset, .unset, .unset, .unset, .unset] [])) _
        refine st176 _ ?_
        show Steps p.tables e below (T176.setTop (mkF m 148 #[iv p0, iv p1, iv p2, iv p3, iv p4, iv p5, iv ra, iv rb, iv ib, iv cb, iv ca0, iv ca1, iv cb0, iv cb1, iv (1 : Int32), iv (1 : Int32), rv x172, rv x174, .unset, .unset, .unset, .unset, .unset] [(.ref b176)])) _
        refine XS.dup X176.here hx rfl (hb hby at_148) rfl rfl ?_
        show Steps p.tables e below (T176.setTop (mkF m 149 #[iv p0, iv p1, iv p2, iv p3, iv p4, iv p5, iv ra, iv rb, iv ib, iv cb, iv ca0, iv ca1, iv cb0, iv cb1, iv (1 : Int32), iv (1 : Int32), rv x172, rv x174, .unset, .unset, .unset, .unset, .unset] [(.ref b176), (.ref b176)])) _
        refine XS.iload X176.here hx rfl (hb hby at_149) rfl ?_
        exact kt
      obtain ⟨_, _, ⟨T178, L178, k178, n178⟩, -, X178, ⟨Lc178, hQ178, l178, y178, z178⟩, st178⟩ := Jvm.LawKit.callS X176 hx (y := (⟨"com/example/fair_witness/fairwitness/verifier/DecodingFailureEqualsPinLaw", "reason", "(I)Lcom/example/fair_witness/fairwitness/verifier/Reason;"⟩ : MethodName)) hown (mvT hZ (hw _ (List.mem_of_getElem? (i := 37) rfl))) (mvT hZ (hw _ (List.mem_of_getElem? (i := 38) rfl))) (mvT hZ (hw _ (List.mem_of_getElem? (i := 2) rfl))) (mvT hZ (hw _ (List.mem_of_getElem? (i := 39) rfl))) (by decide) (backOf (W := 2) (rm8 l Z a0 hw [] ra aK aP aS aR h176 n0 (Nat.le_trans Z0 K176.1) (O0.keep K176 all0) S_KEY_DESCRIPTION_INVALID S_PROVISIONING_INFO_INVALID S_SIGNATURE_INVALID S_ROOT_NOT_TRUSTED) hZ (hw _ (List.mem_of_getElem? (i := 39) rfl)) (hw _ (List.mem_of_getElem? (i := 2) rfl)) (by decide) (by decide)) (g := (mkF m 151 #[iv p0, iv p1, iv p2, iv p3, iv p4, iv p5, iv ra, iv rb, iv ib, iv cb, iv ca0, iv ca1, iv cb0, iv cb1, iv (1 : Int32), iv (1 : Int32), rv x172, rv x174, .unset, .unset, .unset, .unset, .unset] [(.int ra), (.ref b176), (.ref b176)])) rfl (by rw [hml]; rfl) (argsL := [(.int ra)]) (rest := [(.ref b176), (.ref b176)]) (lenOf pd17 rfl) rfl (by show 2 * 0 + _ ≤ _; exact Nat.le_of_eq rfl) (hb hby at_151) (fun _ _ => ⟨rfl, e176, (by decide : 5 + 0 ≤ _), (by decide : 13 + 0 ≤ _)⟩)
      dsimp only [Pt.U, Pt.locs, Pt.cells, Pt.slots] at X178 l178 y178 z178 st178 hQ178
      subst l178 y178 z178
      obtain ⟨rfl, N178q, hh178⟩ := hQ178
      have N178 := Fr.app N174 N178q
      have pre179 : ∀ t, Steps p.tables e below (T178.setTop (mkF m 157 #[iv p0, iv p1, iv p2, iv p3, iv p4, iv p5, iv ra, iv rb, iv ib, iv cb, iv ca0, iv ca1, iv cb0, iv cb1, iv (1 : Int32), iv (1 : Int32), rv x172, rv x174, .unset, .unset, .unset, .unset, .unset] [(.ref x172), (.int p1), (.ref (own_rs aK aP aS aR ra)), (.ref b176), (.ref b176)])) t → Steps p.tables e below (s₁.setTop (entryFrame m #[(.int p0), (.int p1), (.int p2), (.int p3), (.int p4), (.int p5)] maxLocals)) t := by
        intro t kt
        refine pre177 _ ?_
        show Steps p.tables e below (T176.setTop (mkF m 151 #[iv p0, iv p1, iv p2, iv p3, iv p4, iv p5, iv ra, iv rb, iv ib, iv cb, iv ca0, iv ca1, iv cb0, iv cb1, iv (1 : Int32), iv (1 : Int32), rv x172, rv x174, .unset, .unset, .unset, .unset, .unset] [(.int ra), (.ref b176), (.ref b176)])) _
        refine st178 _ ?_
        show Steps p.tables e below (T178.setTop (mkF m 154 #[iv p0, iv p1, iv p2, iv p3, iv p4, iv p5, iv ra, iv rb, iv ib, iv cb, iv ca0, iv ca1, iv cb0, iv cb1, iv (1 : Int32), iv (1 : Int32), rv x172, rv x174, .unset, .unset, .unset, .unset, .unset] [(.ref (own_rs aK aP aS aR ra)), (.ref b176), (.ref b176)])) _
        refine XS.iloadN X178.here hx rfl (hb hby at_154) rfl ?_
        show Steps p.tables e below (T178.setTop (mkF m 155 #[iv p0, iv p1, iv p2, iv p3, iv p4, iv p5, iv ra, iv rb, iv ib, iv cb, iv ca0, iv ca1, iv cb0, iv cb1, iv (1 : Int32), iv (1 : Int32), rv x172, rv x174, .unset, .unset, .unset, .unset, .unset] [(.int p1), (.ref (own_rs aK aP aS aR ra)), (.ref b176), (.ref b176)])) _
        refine XS.aload X178.here hx rfl (hb hby at_155) rfl rfl ?_
        exact kt
      obtain ⟨_, _, ⟨T180, L180, k180, n180⟩, -, X180, ⟨Lc180, hQ180, l180, y180, z180⟩, st180⟩ := X178.specialBack hx (y := (⟨"com/example/fair_witness/fairwitness/verifier/DecodingFailure", "<init>", "(Lcom/example/fair_witness/fairwitness/verifier/Reason;ILjava/lang/String;)V"⟩ : MethodName)) rfl hown (mvT hZ (hw _ (List.mem_of_getElem? (i := 43) rfl))) (mvT hZ (hw _ (List.mem_of_getElem? (i := 44) rfl))) (mvT hZ (hw _ (List.mem_of_getElem? (i := 45) rfl))) (by decide) (backOf (W := 1) (rm9 l Z a0 hw [] b176 (own_rs aK aP aS aR ra) p1 x172 h176 n0 (Nat.le_trans Z0 K176.1) F_reason_b176 F_certificateIndex_b176 F_detail_b176 A176 g_b176) hZ (hw _ (List.mem_of_getElem? (i := 45) rfl)) (hw _ (List.mem_of_getElem? (i := 36) rfl)) (by decide) (by decide)) (g := (mkF m 157 #[iv p0, iv p1, iv p2, iv p3, iv p4, iv p5, iv ra, iv rb, iv ib, iv cb, iv ca0, iv ca1, iv cb0, iv cb1, iv (1 : Int32), iv (1 : Int32), rv x172, rv x174, .unset, .unset, .unset, .unset, .unset] [(.ref x172), (.int p1), (.ref (own_rs aK aP aS aR ra)), (.ref b176), (.ref b176)])) rfl (by rw [hml]; rfl) (Steps.refl _) (a := b176) (argsL := [(.ref (own_rs aK aP aS aR ra)), (.int p1), (.ref x172)]) (rest := [(.ref b176)]) (lenOf pd18 rfl) rfl (by show 2 * 0 + _ ≤ _; exact Nat.le_of_eq rfl) (hb hby at_157) (fun _ _ => ⟨rfl, hh178, (by decide : 5 + 0 ≤ _), (by decide : 13 + 0 ≤ _)⟩)
      dsimp only [Pt.U, Pt.locs, Pt.cells, Pt.slots] at X180 l180 y180 z180 st180 hQ180
      subst l180 y180 z180
      obtain ⟨rfl, N180q, Kc180, F0_180, F1_180, F2_180⟩ := hQ180
      have N180 := Fr.app N178 N180q
      have K180 : Keep h0 T180.heap [] := K176.trans Kc180 (allS (Or.inr sz_b176) all0)
      have pre181 : ∀ t, Steps p.tables e below (T180.setTop (mkF m 172 #[iv p0, iv p1, iv p2, iv p3, iv p4, iv p5, iv ra, iv rb, iv ib, iv cb, iv ca0, iv ca1, iv cb0, iv cb1, iv (1 : Int32), iv (1 : Int32), rv x172, rv x174, rv b176, iv (((p5.toUInt32 >>> ((5 : Int32) &&& 31).toUInt32).toInt32) &&& (3 : Int32)), .unset, .unset, .unset] [(.int (((p5.toUInt32 >>> ((5 : Int32) &&& 31).toUInt32).toInt32) &&& (3 : Int32)))])) t → Steps p.tables e below (s₁.setTop (entryFrame m #[(.int p0), (.int p1), (.int p2), (.int p3), (.int p4), (.int p5)] maxLocals)) t := by
        intro t kt
        refine pre179 _ ?_
        show Steps p.tables e below (T178.setTop (mkF m 157 #[iv p0, iv p1, iv p2, iv p3, iv p4, iv p5, iv ra, iv rb, iv ib, iv cb, iv ca0, iv ca1, iv cb0, iv cb1, iv (1 : Int32), iv (1 : Int32), rv x172, rv x174, .unset, .unset, .unset, .unset, .unset] [(.ref x172), (.int p1), (.ref (own_rs aK aP aS aR ra)), (.ref b176), (.ref b176)])) _
        refine st180.trans ?_
        show Steps p.tables e below (T180.setTop (mkF m 160 #[iv p0, iv p1, iv p2, iv p3, iv p4, iv p5, iv ra, iv rb, iv ib, iv cb, iv ca0, iv ca1, iv cb0, iv cb1, iv (1 : Int32), iv (1 : Int32), rv x172, rv x174, .unset, .unset, .unset, .unset, .unset] [(.ref b176)])) _
        refine XS.astore X180.here hx rfl (hb hby at_160) rfl rfl (l' := #[iv p0, iv p1, iv p2, iv p3, iv p4, iv p5, iv ra, iv rb, iv ib, iv cb, iv ca0, iv ca1, iv cb0, iv cb1, iv (1 : Int32), iv (1 : Int32), rv x172, rv x174, rv b176, .unset, .unset, .unset, .unset]) rfl ?_
        show Steps p.tables e below (T180.setTop (mkF m 162 #[iv p0, iv p1, iv p2, iv p3, iv p4, iv p5, iv ra, iv rb, iv ib, iv cb, iv ca0, iv ca1, iv cb0, iv cb1, iv (1 : Int32), iv (1 : Int32), rv x172, rv x174, rv b176, .unset, .unset, .unset, .unset] [])) _
        refine XS.iload X180.here hx rfl (hb hby at_162) rfl ?_
        show Steps p.tables e below (T180.setTop (mkF m 164 #[iv p0, iv p1, iv p2, iv p3, iv p4, iv p5, iv ra, iv rb, iv ib, iv cb, iv ca0, iv ca1, iv cb0, iv cb1, iv (1 : Int32), iv (1 : Int32), rv x172, rv x174, rv b176, .unset, .unset, .unset, .unset] [(.int p5)])) _
        refine XS.iconst X180.here hx rfl (hb hby at_164) ?_
        show Steps p.tables e below (T180.setTop (mkF m 165 #[iv p0, iv p1, iv p2, iv p3, iv p4, iv p5, iv ra, iv rb, iv ib, iv cb, iv ca0, iv ca1, iv cb0, iv cb1, iv (1 : Int32), iv (1 : Int32), rv x172, rv x174, rv b176, .unset, .unset, .unset, .unset] [(.int (5 : Int32)), (.int p5)])) _
        refine XS.iushr X180.here hx rfl (hb hby at_165) rfl ?_
        show Steps p.tables e below (T180.setTop (mkF m 166 #[iv p0, iv p1, iv p2, iv p3, iv p4, iv p5, iv ra, iv rb, iv ib, iv cb, iv ca0, iv ca1, iv cb0, iv cb1, iv (1 : Int32), iv (1 : Int32), rv x172, rv x174, rv b176, .unset, .unset, .unset, .unset] [(.int ((p5.toUInt32 >>> ((5 : Int32) &&& 31).toUInt32).toInt32))])) _
        refine XS.iconst X180.here hx rfl (hb hby at_166) ?_
        show Steps p.tables e below (T180.setTop (mkF m 167 #[iv p0, iv p1, iv p2, iv p3, iv p4, iv p5, iv ra, iv rb, iv ib, iv cb, iv ca0, iv ca1, iv cb0, iv cb1, iv (1 : Int32), iv (1 : Int32), rv x172, rv x174, rv b176, .unset, .unset, .unset, .unset] [(.int (3 : Int32)), (.int ((p5.toUInt32 >>> ((5 : Int32) &&& 31).toUInt32).toInt32))])) _
        refine XS.iand X180.here hx rfl (hb hby at_167) rfl ?_
        show Steps p.tables e below (T180.setTop (mkF m 168 #[iv p0, iv p1, iv p2, iv p3, iv p4, iv p5, iv ra, iv rb, iv ib, iv cb, iv ca0, iv ca1, iv cb0, iv cb1, iv (1 : Int32), iv (1 : Int32), rv x172, rv x174, rv b176, .unset, .unset, .unset, .unset] [(.int (((p5.toUInt32 >>> ((5 : Int32) &&& 31).toUInt32).toInt32) &&& (3 : Int32)))])) _
        refine XS.istore X180.here hx rfl (hb hby at_168) rfl (l' := #[iv p0, iv p1, iv p2, iv p3, iv p4, iv p5, iv ra, iv rb, iv ib, iv cb, iv ca0, iv ca1, iv cb0, iv cb1, iv (1 : Int32), iv (1 : Int32), rv x172, rv x174, rv b176, iv (((p5.toUInt32 >>> ((5 : Int32) &&& 31).toUInt32).toInt32) &&& (3 : Int32)), .unset, .unset, .unset]) rfl ?_
        show Steps p.tables e below (T180.setTop (mkF m 170 #[iv p0, iv p1, iv p2, iv p3, iv p4, iv p5, iv ra, iv rb, iv ib, iv cb, iv ca0, iv ca1, iv cb0, iv cb1, iv (1 : Int32), iv (1 : Int32), rv x172, rv x174, rv b176, iv (((p5.toUInt32 >>> ((5 : Int32) &&& 31).toUInt32).toInt32) &&& (3 : Int32)), .unset, .unset, .unset] [])) _
        refine XS.iload X180.here hx rfl (hb hby at_170) rfl ?_
        exact kt
      by_cases hc172 : (((p5.toUInt32 >>> ((5 : Int32) &&& 31).toUInt32).toInt32) &&& (3 : Int32)) = (0 : Int32)
      · have pre182 : ∀ t, Steps p.tables e below (T180.setTop (mkF m 178 #[iv p0, iv p1, iv p2, iv p3, iv p4, iv p5, iv ra, iv rb, iv ib, iv cb, iv ca0, iv ca1, iv cb0, iv cb1, iv (1 : Int32), iv (1 : Int32), rv x172, rv x174, rv b176, iv (((p5.toUInt32 >>> ((5 : Int32) &&& 31).toUInt32).toInt32) &&& (3 : Int32)), .unset, .unset, .unset] [.null, (.ref b176)])) t → Steps p.tables e below (s₁.setTop (entryFrame m #[(.int p0), (.int p1), (.int p2), (.int p3), (.int p4), (.int p5)] maxLocals)) t := by
          intro t kt
          refine pre181 _ ?_
          show Steps p.tables e below (T180.setTop (mkF m 172 #[iv p0, iv p1, iv p2, iv p3, iv p4, iv p5, iv ra, iv rb, iv ib, iv cb, iv ca0, iv ca1, iv cb0, iv cb1, iv (1 : Int32), iv (1 : Int32), rv x172, rv x174, rv b176, iv (((p5.toUInt32 >>> ((5 : Int32) &&& 31).toUInt32).toInt32) &&& (3 : Int32)), .unset, .unset, .unset] [(.int (((p5.toUInt32 >>> ((5 : Int32) &&& 31).toUInt32).toInt32) &&& (3 : Int32)))])) _
          refine XS.ifNo X180.here hx rfl (hb hby at_172) rfl ((if0 _ _).trans (teq hc172).2) ?_
          show Steps p.tables e below (T180.setTop (mkF m 175 #[iv p0, iv p1, iv p2, iv p3, iv p4, iv p5, iv ra, iv rb, iv ib, iv cb, iv ca0, iv ca1, iv cb0, iv cb1, iv (1 : Int32), iv (1 : Int32), rv x172, rv x174, rv b176, iv (((p5.toUInt32 >>> ((5 : Int32) &&& 31).toUInt32).toInt32) &&& (3 : Int32)), .unset, .unset, .unset] [])) _
          refine XS.aload X180.here hx rfl (hb hby at_175) rfl rfl ?_
          show Steps p.tables e below (T180.setTop (mkF m 177 #[iv p0, iv p1, iv p2, iv p3, iv p4, iv p5, iv ra, iv rb, iv ib, iv cb, iv ca0, iv ca1, iv cb0, iv cb1, iv (1 : Int32), iv (1 : Int32), rv x172, rv x174, rv b176, iv (((p5.toUInt32 >>> ((5 : Int32) &&& 31).toUInt32).toInt32) &&& (3 : Int32)), .unset, .unset, .unset] [(.ref b176)])) _
          refine XS.aconstNull X180.here hx rfl (hb hby at_177) ?_
          exact kt
        obtain ⟨cq183, kq183, q183a, q183b, q183c⟩ := isOf hZ rfl (A176.keep Kc180)
        obtain ⟨_, _, ⟨T183, L183, k183, n183⟩, -, X183, ⟨Lc183, hQ183, l183, y183, z183⟩, st183⟩ := X180.virtualBack hx (y := (⟨"com/example/fair_witness/fairwitness/verifier/DecodingFailure", "equals", "(Ljava/lang/Object;)Z"⟩ : MethodName)) (z := (⟨"com/example/fair_witness/fairwitness/verifier/DecodingFailure", "equals", "(Ljava/lang/Object;)Z"⟩ : MethodName)) hown (mvT hZ (hw _ (List.mem_of_getElem? (i := 53) rfl))) (mvT hZ (hw _ (List.mem_of_getElem? (i := 54) rfl))) (notFace_of_selects (args := #[]) (mvT hZ (hw _ (List.mem_of_getElem? (i := 56) rfl)))) (mvT hZ (hw _ (List.mem_of_getElem? (i := 56) rfl))) (mvT hZ (hw _ (List.mem_of_getElem? (i := 55) rfl))) (by decide) (backOf (W := 0) (rm10null l Z a0 hw [] b176 T180.heap n0 (Nat.le_trans Z0 K180.1)) hZ (hw _ (List.mem_of_getElem? (i := 57) rfl)) (hw _ (List.mem_of_getElem? (i := 36) rfl)) (by decide) (by decide)) q183a q183c (g := (mkF m 178 #[iv p0, iv p1, iv p2, iv p3, iv p4, iv p5, iv ra, iv rb, iv ib, iv cb, iv ca0, iv ca1, iv cb0, iv cb1, iv (1 : Int32), iv (1 : Int32), rv x172, rv x174, rv b176, iv (((p5.toUInt32 >>> ((5 : Int32) &&& 31).toUInt32).toInt32) &&& (3 : Int32)), .unset, .unset, .unset] [.null, (.ref b176)])) rfl (by rw [hml]; rfl) (Steps.refl _) (argsL := [.null]) (rest := []) (lenOf pd15 rfl) rfl (by show 2 * 0 + _ ≤ _; exact Nat.le_of_eq rfl) (hb hby at_178) (fun _ _ => ⟨rfl, rfl, (by decide : 5 + 0 ≤ _), (by decide : 13 + 0 ≤ _)⟩)
        dsimp only [Pt.U, Pt.locs, Pt.cells, Pt.slots] at X183 l183 y183 z183 st183 hQ183
        subst l183 y183 z183
        obtain ⟨rfl, N183q, hh183⟩ := hQ183
        have N183 := Fr.app N180 N183q
        have pre184 : ∀ t, Steps p.tables e below (T183.setTop (mkF m 189 #[iv p0, iv p1, iv p2, iv p3, iv p4, iv p5, iv ra, iv rb, iv ib, iv cb, iv ca0, iv ca1, iv cb0, iv cb1, iv (1 : Int32), iv (1 : Int32), rv x172, rv x174, rv b176, iv (((p5.toUInt32 >>> ((5 : Int32) &&& 31).toUInt32).toInt32) &&& (3 : Int32)), .unset, .unset, .unset] [(.int (1 : Int32))])) t → Steps p.tables e below (s₁.setTop (entryFrame m #[(.int p0), (.int p1), (.int p2), (.int p3), (.int p4), (.int p5)] maxLocals)) t := by
          intro t kt
          refine pre182 _ ?_
          show Steps p.tables e below (T180.setTop (mkF m 178 #[iv p0, iv p1, iv p2, iv p3, iv p4, iv p5, iv ra, iv rb, iv ib, iv cb, iv ca0, iv ca1, iv cb0, iv cb1, iv (1 : Int32), iv (1 : Int32), rv x172, rv x174, rv b176, iv (((p5.toUInt32 >>> ((5 : Int32) &&& 31).toUInt32).toInt32) &&& (3 : Int32)), .unset, .unset, .unset] [.null, (.ref b176)])) _
          refine st183.trans ?_
          show Steps p.tables e below (T183.setTop (mkF m 181 #[iv p0, iv p1, iv p2, iv p3, iv p4, iv p5, iv ra, iv rb, iv ib, iv cb, iv ca0, iv ca1, iv cb0, iv cb1, iv (1 : Int32), iv (1 : Int32), rv x172, rv x174, rv b176, iv (((p5.toUInt32 >>> ((5 : Int32) &&& 31).toUInt32).toInt32) &&& (3 : Int32)), .unset, .unset, .unset] [(.int (0 : Int32))])) _
          refine XS.ifNo X183.here hx rfl (hb hby at_181) rfl ((if0 _ _).trans (teq (by decide)).2) ?_
          show Steps p.tables e below (T183.setTop (mkF m 184 #[iv p0, iv p1, iv p2, iv p3, iv p4, iv p5, iv ra, iv rb, iv ib, iv cb, iv ca0, iv ca1, iv cb0, iv cb1, iv (1 : Int32), iv (1 : Int32), rv x172, rv x174, rv b176, iv (((p5.toUInt32 >>> ((5 : Int32) &&& 31).toUInt32).toInt32) &&& (3 : Int32)), .unset, .unset, .unset] [])) _
          refine XS.iconst X183.here hx rfl (hb hby at_184) ?_
          show Steps p.tables e below (T183.setTop (mkF m 185 #[iv p0, iv p1, iv p2, iv p3, iv p4, iv p5, iv ra, iv rb, iv ib, iv cb, iv ca0, iv ca1, iv cb0, iv cb1, iv (1 : Int32), iv (1 : Int32), rv x172, rv x174, rv b176, iv (((p5.toUInt32 >>> ((5 : Int32) &&& 31).toUInt32).toInt32) &&& (3 : Int32)), .unset, .unset, .unset] [(.int (1 : Int32))])) _
          refine XS.goto X183.here hx rfl (pc0 := 185) (pc' := 189) rfl (hb hby at_185) (by decide) (by decide) ?_
          exact kt
        obtain ⟨fs, hr, hrun, hended, hW, hsame⟩ := X183.leave (v := some (.int (1 : Int32))) (fun h => by rw [Bd.returns] at h; cases h)
        refine ⟨_, _, pre184 _ ?_, hrun, hended, _, _, rfl, ?_, ⟨_, rfl⟩, hW, hsame.mono (by decide) (by decide)⟩
        · show Steps p.tables e below (T183.setTop (mkF m 189 #[iv p0, iv p1, iv p2, iv p3, iv p4, iv p5, iv ra, iv rb, iv ib, iv cb, iv ca0, iv ca1, iv cb0, iv cb1, iv (1 : Int32), iv (1 : Int32), rv x172, rv x174, rv b176, iv (((p5.toUInt32 >>> ((5 : Int32) &&& 31).toUInt32).toInt32) &&& (3 : Int32)), .unset, .unset, .unset] [(.int (1 : Int32))])) _
          exact retN X183 hx (t := .boolean) Bd.returns (by simp) (hb hby at_189) hr
        · show Q0 Z p0 p1 p2 p3 p4 p5 aK aP aS aR cs h0 n0 _ T183.heap _
          rw [hh183]
          exact ⟨rfl, N183⟩
      · have pre185 : ∀ t, Steps p.tables e below (T180.setTop (mkF m 193 #[iv p0, iv p1, iv p2, iv p3, iv p4, iv p5, iv ra, iv rb, iv ib, iv cb, iv ca0, iv ca1, iv cb0, iv cb1, iv (1 : Int32), iv (1 : Int32), rv x172, rv x174, rv b176, iv (((p5.toUInt32 >>> ((5 : Int32) &&& 31).toUInt32).toInt32) &&& (3 : Int32)), .unset, .unset, .unset] [(.int (1 : Int32)), (.int (((p5.toUInt32 >>> ((5 : Int32) &&& 31).toUInt32).toInt32) &&& (3 : Int32)))])) t → Steps p.tables e below (s₁.setTop (entryFrame m #[(.int p0), (.int p1), (.int p2), (.int p3), (.int p4), (.int p5)] maxLocals)) t := by
          intro t kt
          refine pre181 _ ?_
          show Steps p.tables e below (T180.setTop (mkF m 172 #[iv p0, iv p1, iv p2, iv p3, iv p4, iv p5, iv ra, iv rb, iv ib, iv cb, iv ca0, iv ca1, iv cb0, iv cb1, iv (1 : Int32), iv (1 : Int32), rv x172, rv x174, rv b176, iv (((p5.toUInt32 >>> ((5 : Int32) &&& 31).toUInt32).toInt32) &&& (3 : Int32)), .unset, .unset, .unset] [(.int (((p5.toUInt32 >>> ((5 : Int32) &&& 31).toUInt32).toInt32) &&& (3 : Int32)))])) _
          refine XS.ifYes X180.here hx rfl (pc0 := 172) (pc' := 190) rfl (hb hby at_172) rfl ((if0 _ _).trans (feq hc172).2) (by decide) (by decide) ?_
          show Steps p.tables e below (T180.setTop (mkF m 190 #[iv p0, iv p1, iv p2, iv p3, iv p4, iv p5, iv ra, iv rb, iv ib, iv cb, iv ca0, iv ca1, iv cb0, iv cb1, iv (1 : Int32), iv (1 : Int32), rv x172, rv x174, rv b176, iv (((p5.toUInt32 >>> ((5 : Int32) &&& 31).toUInt32).toInt32) &&& (3 : Int32)), .unset, .unset, .unset] [])) _
          refine XS.iload X180.here hx rfl (hb hby at_190) rfl ?_
          show Steps p.tables e below (T180.setTop (mkF m 192 #[iv p0, iv p1, iv p2, iv p3, iv p4, iv p5, iv ra, iv rb, iv ib, iv cb, iv ca0, iv ca1, iv cb0, iv cb1, iv (1 : Int32), iv (1 : Int32), rv x172, rv x174, rv b176, iv (((p5.toUInt32 >>> ((5 : Int32) &&& 31).toUInt32).toInt32) &&& (3 : Int32)), .unset, .unset, .unset] [(.int (((p5.toUInt32 >>> ((5 : Int32) &&& 31).toUInt32).toInt32) &&& (3 : Int32)))])) _
          refine XS.iconst X180.here hx rfl (hb hby at_192) ?_
          exact kt
        by_cases hc193 : (((p5.toUInt32 >>> ((5 : Int32) &&& 31).toUInt32).toInt32) &&& (3 : Int32)) = (1 : Int32)
        · have pre186 : ∀ t, Steps p.tables e below (T180.setTop (mkF m 204 #[iv p0, iv p1, iv p2, iv p3, iv p4, iv p5, iv ra, iv rb, iv ib, iv cb, iv ca0, iv ca1, iv cb0, iv cb1, iv (1 : Int32), iv (1 : Int32), rv x172, rv x174, rv b176, iv (((p5.toUInt32 >>> ((5 : Int32) &&& 31).toUInt32).toInt32) &&& (3 : Int32)), rv x172, .unset, .unset] [(.ref x172), (.ref b176)])) t → Steps p.tables e below (s₁.setTop (entryFrame m #[(.int p0), (.int p1), (.int p2), (.int p3), (.int p4), (.int p5)] maxLocals)) t := by
            intro t kt
            refine pre185 _ ?_
            show Steps p.tables e below (T180.setTop (mkF m 193 #[iv p0, iv p1, iv p2, iv p3, iv p4, iv p5, iv ra, iv rb, iv ib, iv cb, iv ca0, iv ca1, iv cb0, iv cb1, iv (1 : Int32), iv (1 : Int32), rv x172, rv x174, rv b176, iv (((p5.toUInt32 >>> ((5 : Int32) &&& 31).toUInt32).toInt32) &&& (3 : Int32)), .unset, .unset, .unset] [(.int (1 : Int32)), (.int (((p5.toUInt32 >>> ((5 : Int32) &&& 31).toUInt32).toInt32) &&& (3 : Int32)))])) _
            refine XS.icmpNo X180.here hx rfl (hb hby at_193) rfl (teq hc193).2 ?_
            show Steps p.tables e below (T180.setTop (mkF m 196 #[iv p0, iv p1, iv p2, iv p3, iv p4, iv p5, iv ra, iv rb, iv ib, iv cb, iv ca0, iv ca1, iv cb0, iv cb1, iv (1 : Int32), iv (1 : Int32), rv x172, rv x174, rv b176, iv (((p5.toUInt32 >>> ((5 : Int32) &&& 31).toUInt32).toInt32) &&& (3 : Int32)), .unset, .unset, .unset] [])) _
            refine XS.aload X180.here hx rfl (hb hby at_196) rfl rfl ?_
            show Steps p.tables e below (T180.setTop (mkF m 198 #[iv p0, iv p1, iv p2, iv p3, iv p4, iv p5, iv ra, iv rb, iv ib, iv cb, iv ca0, iv ca1, iv cb0, iv cb1, iv (1 : Int32), iv (1 : Int32), rv x172, rv x174, rv b176, iv (((p5.toUInt32 >>> ((5 : Int32) &&& 31).toUInt32).toInt32) &&& (3 : Int32)), .unset, .unset, .unset] [(.ref x172)])) _
            refine XS.astore X180.here hx rfl (hb hby at_198) rfl rfl (l' := #[iv p0, iv p1, iv p2, iv p3, iv p4, iv p5, iv ra, iv rb, iv ib, iv cb, iv ca0, iv ca1, iv cb0, iv cb1, iv (1 : Int32), iv (1 : Int32), rv x172, rv x174, rv b176, iv (((p5.toUInt32 >>> ((5 : Int32) &&& 31).toUInt32).toInt32) &&& (3 : Int32)), rv x172, .unset, .unset]) rfl ?_
            show Steps p.tables e below (T180.setTop (mkF m 200 #[iv p0, iv p1, iv p2, iv p3, iv p4, iv p5, iv ra, iv rb, iv ib, iv cb, iv ca0, iv ca1, iv cb0, iv cb1, iv (1 : Int32), iv (1 : Int32), rv x172, rv x174, rv b176, iv (((p5.toUInt32 >>> ((5 : Int32) &&& 31).toUInt32).toInt32) &&& (3 : Int32)), rv x172, .unset, .unset] [])) _
            refine XS.aload X180.here hx rfl (hb hby at_200) rfl rfl ?_
            show Steps p.tables e below (T180.setTop (mkF m 202 #[iv p0, iv p1, iv p2, iv p3, iv p4, iv p5, iv ra, iv rb, iv ib, iv cb, iv ca0, iv ca1, iv cb0, iv cb1, iv (1 : Int32), iv (1 : Int32), rv x172, rv x174, rv b176, iv (((p5.toUInt32 >>> ((5 : Int32) &&& 31).toUInt32).toInt32) &&& (3 : Int32)), rv x172, .unset, .unset] [(.ref b176)])) _
            refine XS.aload X180.here hx rfl (hb hby at_202) rfl rfl ?_
            exact kt
          obtain ⟨cq187, kq187, q187a, q187b, q187c⟩ := isOf hZ rfl (A176.keep Kc180)
          obtain ⟨_, _, ⟨T187, L187, k187, n187⟩, -, X187, ⟨Lc187, hQ187, l187, y187, z187⟩, st187⟩ := X180.virtualBack hx (y := (⟨"com/example/fair_witness/fairwitness/verifier/DecodingFailure", "equals", "(Ljava/lang/Object;)Z"⟩ : MethodName)) (z := (⟨"com/example/fair_witness/fairwitness/verifier/DecodingFailure", "equals", "(Ljava/lang/Object;)Z"⟩ : MethodName)) hown (mvT hZ (hw _ (List.mem_of_getElem? (i := 53) rfl))) (mvT hZ (hw _ (List.mem_of_getElem? (i := 54) rfl))) (notFace_of_selects (args := #[]) (mvT hZ (hw _ (List.mem_of_getElem? (i := 56) rfl)))) (mvT hZ (hw _ (List.mem_of_getElem? (i := 56) rfl))) (mvT hZ (hw _ (List.mem_of_getElem? (i := 55) rfl))) (by decide) (backOf (W := 0) (rm10str l Z a0 hw [] b176 x172 T180.heap n0 (Nat.le_trans Z0 K180.1) (((Ex172.keep Kc174).ext E176).keep Kc180)) hZ (hw _ (List.mem_of_getElem? (i := 57) rfl)) (hw _ (List.mem_of_getElem? (i := 36) rfl)) (by decide) (by decide)) q187a q187c (g := (mkF m 204 #[iv p0, iv p1, iv p2, iv p3, iv p4, iv p5, iv ra, iv rb, iv ib, iv cb, iv ca0, iv ca1, iv cb0, iv cb1, iv (1 : Int32), iv (1 : Int32), rv x172, rv x174, rv b176, iv (((p5.toUInt32 >>> ((5 : Int32) &&& 31).toUInt32).toInt32) &&& (3 : Int32)), rv x172, .unset, .unset] [(.ref x172), (.ref b176)])) rfl (by rw [hml]; rfl) (Steps.refl _) (argsL := [(.ref x172)]) (rest := []) (lenOf pd15 rfl) rfl (by show 2 * 0 + _ ≤ _; exact Nat.le_of_eq rfl) (hb hby at_204) (fun _ _ => ⟨rfl, rfl, (by decide : 5 + 0 ≤ _), (by decide : 13 + 0 ≤ _)⟩)
          dsimp only [Pt.U, Pt.locs, Pt.cells, Pt.slots] at X187 l187 y187 z187 st187 hQ187
          subst l187 y187 z187
          obtain ⟨rfl, N187q, hh187⟩ := hQ187
          have N187 := Fr.app N180 N187q
          have pre188 : ∀ t, Steps p.tables e below (T187.setTop (mkF m 215 #[iv p0, iv p1, iv p2, iv p3, iv p4, iv p5, iv ra, iv rb, iv ib, iv cb, iv ca0, iv ca1, iv cb0, iv cb1, iv (1 : Int32), iv (1 : Int32), rv x172, rv x174, rv b176, iv (((p5.toUInt32 >>> ((5 : Int32) &&& 31).toUInt32).toInt32) &&& (3 : Int32)), rv x172, .unset, .unset] [(.int (1 : Int32))])) t → Steps p.tables e below (s₁.setTop (entryFrame m #[(.int p0), (.int p1), (.int p2), (.int p3), (.int p4), (.int p5)] maxLocals)) t := by
            intro t kt
            refine pre186 _ ?_
            show Steps p.tables e below (T180.setTop (mkF m 204 #[iv p0, iv p1, iv p2, iv p3, iv p4, iv p5, iv ra, iv rb, iv ib, iv cb, iv ca0, iv ca1, iv cb0, iv cb1, iv (1 : Int32), iv (1 : Int32), rv x172, rv x174, rv b176, iv (((p5.toUInt32 >>> ((5 : Int32) &&& 31).toUInt32).toInt32) &&& (3 : Int32)), rv x172, .unset, .unset] [(.ref x172), (.ref b176)])) _
            refine st187.trans ?_
            show Steps p.tables e below (T187.setTop (mkF m 207 #[iv p0, iv p1, iv p2, iv p3, iv p4, iv p5, iv ra, iv rb, iv ib, iv cb, iv ca0, iv ca1, iv cb0, iv cb1, iv (1 : Int32), iv (1 : Int32), rv x172, rv x174, rv b176, iv (((p5.toUInt32 >>> ((5 : Int32) &&& 31).toUInt32).toInt32) &&& (3 : Int32)), rv x172, .unset, .unset] [(.int (0 : Int32))])) _
            refine XS.ifNo X187.here hx rfl (hb hby at_207) rfl ((if0 _ _).trans (teq (by decide)).2) ?_
            show Steps p.tables e below (T187.setTop (mkF m 210 #[iv p0, iv p1, iv p2, iv p3, iv p4, iv p5, iv ra, iv rb, iv ib, iv cb, iv ca0, iv ca1, iv cb0, iv cb1, iv (1 : Int32), iv (1 : Int32), rv x172, rv x174, rv b176, iv (((p5.toUInt32 >>> ((5 : Int32) &&& 31).toUInt32).toInt32) &&& (3 : Int32)), rv x172, .unset, .unset] [])) _
            refine XS.iconst X187.here hx rfl (hb hby at_210) ?_
            show Steps p.tables e below (T187.setTop (mkF m 211 #[iv p0, iv p1, iv p2, iv p3, iv p4, iv p5, iv ra, iv rb, iv ib, iv cb, iv ca0, iv ca1, iv cb0, iv cb1, iv (1 : Int32), iv (1 : Int32), rv x172, rv x174, rv b176, iv (((p5.toUInt32 >>> ((5 : Int32) &&& 31).toUInt32).toInt32) &&& (3 : Int32)), rv x172, .unset, .unset] [(.int (1 : Int32))])) _
            refine XS.goto X187.here hx rfl (pc0 := 211) (pc' := 215) rfl (hb hby at_211) (by decide) (by decide) ?_
            exact kt
          obtain ⟨fs, hr, hrun, hended, hW, hsame⟩ := X187.leave (v := some (.int (1 : Int32))) (fun h => by rw [Bd.returns] at h; cases h)
          refine ⟨_, _, pre188 _ ?_, hrun, hended, _, _, rfl, ?_, ⟨_, rfl⟩, hW, hsame.mono (by decide) (by decide)⟩
          · show Steps p.tables e below (T187.setTop (mkF m 215 #[iv p0, iv p1, iv p2, iv p3, iv p4, iv p5, iv ra, iv rb, iv ib, iv cb, iv ca0, iv ca1, iv cb0, iv cb1, iv (1 : Int32), iv (1 : Int32), rv x172, rv x174, rv b176, iv (((p5.toUInt32 >>> ((5 : Int32) &&& 31).toUInt32).toInt32) &&& (3 : Int32)), rv x172, .unset, .unset] [(.int (1 : Int32))])) _
            exact retN X187 hx (t := .boolean) Bd.returns (by simp) (hb hby at_215) hr
          · show Q0 Z p0 p1 p2 p3 p4 p5 aK aP aS aR cs h0 n0 _ T187.heap _
            rw [hh187]
            exact ⟨rfl, N187⟩
        · have pre189 : ∀ t, Steps p.tables e below (T180.setTop (mkF m 219 #[iv p0, iv p1, iv p2, iv p3, iv p4, iv p5, iv ra, iv rb, iv ib, iv cb, iv ca0, iv ca1, iv cb0, iv cb1, iv (1 : Int32), iv (1 : Int32), rv x172, rv x174, rv b176, iv (((p5.toUInt32 >>> ((5 : Int32) &&& 31).toUInt32).toInt32) &&& (3 : Int32)), .unset, .unset, .unset] [(.int (2 : Int32)), (.int (((p5.toUInt32 >>> ((5 : Int32) &&& 31).toUInt32).toInt32) &&& (3 : Int32)))])) t → Steps p.tables e below (s₁.setTop (entryFrame m #[(.int p0), (.int p1), (.int p2), (.int p3), (.int p4), (.int p5)] maxLocals)) t := by
            intro t kt
            refine pre185 _ ?_
            show Steps p.tables e below (T180.setTop (mkF m 193 #[iv p0, iv p1, iv p2, iv p3, iv p4, iv p5, iv ra, iv rb, iv ib, iv cb, iv ca0, iv ca1, iv cb0, iv cb1, iv (1 : Int32), iv (1 : Int32), rv x172, rv x174, rv b176, iv (((p5.toUInt32 >>> ((5 : Int32) &&& 31).toUInt32).toInt32) &&& (3 : Int32)), .unset, .unset, .unset] [(.int (1 : Int32)), (.int (((p5.toUInt32 >>> ((5 : Int32) &&& 31).toUInt32).toInt32) &&& (3 : Int32)))])) _
            refine XS.icmpYes X180.here hx rfl (pc0 := 193) (pc' := 216) rfl (hb hby at_193) rfl (feq hc193).2 (by decide) (by decide) ?_
            show Steps p.tables e below (T180.setTop (mkF m 216 #[iv p0, iv p1, iv p2, iv p3, iv p4, iv p5, iv ra, iv rb, iv ib, iv cb, iv ca0, iv ca1, iv cb0, iv cb1, iv (1 : Int32), iv (1 : Int32), rv x172, rv x174, rv b176, iv (((p5.toUInt32 >>> ((5 : Int32) &&& 31).toUInt32).toInt32) &&& (3 : Int32)), .unset, .unset, .unset] [])) _
            refine XS.iload X180.here hx rfl (hb hby at_216) rfl ?_
            show Steps p.tables e below (T180.setTop (mkF m 218 #[iv p0, iv p1, iv p2, iv p3, iv p4, iv p5, iv ra, iv rb, iv ib, iv cb, iv ca0, iv ca1, iv cb0, iv cb1, iv (1 : Int32), iv (1 : Int32), rv x172, rv x174, rv b176, iv (((p5.toUInt32 >>> ((5 : Int32) &&& 31).toUInt32).toInt32) &&& (3 : Int32)), .unset, .unset, .unset] [(.int (((p5.toUInt32 >>> ((5 : Int32) &&& 31).toUInt32).toInt32) &&& (3 : Int32)))])) _
            refine XS.iconst X180.here hx rfl (hb hby at_218) ?_
            exact kt
          by_cases hc219 : (((p5.toUInt32 >>> ((5 : Int32) &&& 31).toUInt32).toInt32) &&& (3 : Int32)) = (2 : Int32)
          · have pre190 : ∀ t, Steps p.tables e below (T180.setTop (mkF m 226 #[iv p0, iv p1, iv p2, iv p3, iv p4, iv p5, iv ra, iv rb, iv ib, iv cb, iv ca0, iv ca1, iv cb0, iv cb1, iv (1 : Int32), iv (1 : Int32), rv x172, rv x174, rv b176, iv (((p5.toUInt32 >>> ((5 : Int32) &&& 31).toUInt32).toInt32) &&& (3 : Int32)), .unset, .unset, .unset] [(.ref b176), (.ref b176)])) t → Steps p.tables e below (s₁.setTop (entryFrame m #[(.int p0), (.int p1), (.int p2), (.int p3), (.int p4), (.int p5)] maxLocals)) t := by
              intro t kt
              refine pre189 _ ?_
              show Steps p.tables e below (T180.setTop (mkF m 219 #[iv p0, iv p1, iv p2, iv p3, iv p4, iv p5, iv ra, iv rb, iv ib, iv cb, iv ca0, iv ca1, iv cb0, iv cb1, iv (1 : Int32), iv (1 : Int32), rv x172, rv x174, rv b176, iv (((p5.toUInt32 >>> ((5 : Int32) &&& 31).toUInt32).toInt32) &&& (3 : Int32)), .unset, .unset, .unset] [(.int (2 : Int32)), (.int (((p5.toUInt32 >>> ((5 : Int32) &&& 31).toUInt32).toInt32) &&& (3 : Int32)))])) _
              refine XS.icmpNo X180.here hx rfl (hb hby at_219) rfl (teq hc219).2 ?_
              show Steps p.tables e below (T180.setTop (mkF m 222 #[iv p0, iv p1, iv p2, iv p3, iv p4, iv p5, iv ra, iv rb, iv ib, iv cb, iv ca0, iv ca1, iv cb0, iv cb1, iv (1 : Int32), iv (1 : Int32), rv x172, rv x174, rv b176, iv (((p5.toUInt32 >>> ((5 : Int32) &&& 31).toUInt32).toInt32) &&& (3 : Int32)), .unset, .unset, .unset] [])) _
              refine XS.aload X180.here hx rfl (hb hby at_222) rfl rfl ?_
              show Steps p.tables e below (T180.setTop (mkF m 224 #[iv p0, iv p1, iv p2, iv p3, iv p4, iv p5, iv ra, iv rb, iv ib, iv cb, iv ca0, iv ca1, iv cb0, iv cb1, iv (1 : Int32), iv (1 : Int32), rv x172, rv x174, rv b176, iv (((p5.toUInt32 >>> ((5 : Int32) &&& 31).toUInt32).toInt32) &&& (3 : Int32)), .unset, .unset, .unset] [(.ref b176)])) _
              refine XS.aload X180.here hx rfl (hb hby at_224) rfl rfl ?_
              exact kt
            obtain ⟨cq191, kq191, q191a, q191b, q191c⟩ := isOf hZ rfl (A176.keep Kc180)
            obtain ⟨_, _, ⟨T191, L191, k191, n191⟩, -, X191, ⟨Lc191, hQ191, l191, y191, z191⟩, st191⟩ := X180.virtualBack hx (y := (⟨"com/example/fair_witness/fairwitness/verifier/DecodingFailure", "equals", "(Ljava/lang/Object;)Z"⟩ : MethodName)) (z := (⟨"com/example/fair_witness/fairwitness/verifier/DecodingFailure", "equals", "(Ljava/lang/Object;)Z"⟩ : MethodName)) hown (mvT hZ (hw _ (List.mem_of_getElem? (i := 53) rfl))) (mvT hZ (hw _ (List.mem_of_getElem? (i := 54) rfl))) (notFace_of_selects (args := #[]) (mvT hZ (hw _ (List.mem_of_getElem? (i := 56) rfl)))) (mvT hZ (hw _ (List.mem_of_getElem? (i := 56) rfl))) (mvT hZ (hw _ (List.mem_of_getElem? (i := 55) rfl))) (by decide) (backOf (W := 0) (rm10same l Z a0 hw [] b176 (own_rs aK aP aS aR ra) p1 x172 T180.heap n0 (Nat.le_trans Z0 K180.1) F0_180 F1_180 F2_180 (A176.keep Kc180) (((Ex172.keep Kc174).ext E176).keep Kc180)) hZ (hw _ (List.mem_of_getElem? (i := 57) rfl)) (hw _ (List.mem_of_getElem? (i := 36) rfl)) (by decide) (by decide)) q191a q191c (g := (mkF m 226 #[iv p0, iv p1, iv p2, iv p3, iv p4, iv p5, iv ra, iv rb, iv ib, iv cb, iv ca0, iv ca1, iv cb0, iv cb1, iv (1 : Int32), iv (1 : Int32), rv x172, rv x174, rv b176, iv (((p5.toUInt32 >>> ((5 : Int32) &&& 31).toUInt32).toInt32) &&& (3 : Int32)), .unset, .unset, .unset] [(.ref b176), (.ref b176)])) rfl (by rw [hml]; rfl) (Steps.refl _) (argsL := [(.ref b176)]) (rest := []) (lenOf pd15 rfl) rfl (by show 2 * 0 + _ ≤ _; exact Nat.le_of_eq rfl) (hb hby at_226) (fun _ _ => ⟨rfl, rfl, (by decide : 5 + 0 ≤ _), (by decide : 13 + 0 ≤ _)⟩)
            dsimp only [Pt.U, Pt.locs, Pt.cells, Pt.slots] at X191 l191 y191 z191 st191 hQ191
            subst l191 y191 z191
            obtain ⟨rfl, N191q, hh191⟩ := hQ191
            have N191 := Fr.app N180 N191q
            have pre192 : ∀ t, Steps p.tables e below (T191.setTop (mkF m 229 #[iv p0, iv p1, iv p2, iv p3, iv p4, iv p5, iv ra, iv rb, iv ib, iv cb, iv ca0, iv ca1, iv cb0, iv cb1, iv (1 : Int32), iv (1 : Int32), rv x172, rv x174, rv b176, iv (((p5.toUInt32 >>> ((5 : Int32) &&& 31).toUInt32).toInt32) &&& (3 : Int32)), .unset, .unset, .unset] [(.int (1 : Int32))])) t → Steps p.tables e below (s₁.setTop (entryFrame m #[(.int p0), (.int p1), (.int p2), (.int p3), (.int p4), (.int p5)] maxLocals)) t := by
              intro t kt
              refine pre190 _ ?_
              show Steps p.tables e below (T180.setTop (mkF m 226 #[iv p0, iv p1, iv p2, iv p3, iv p4, iv p5, iv ra, iv rb, iv ib, iv cb, iv ca0, iv ca1, iv cb0, iv cb1, iv (1 : Int32), iv (1 : Int32), rv x172, rv x174, rv b176, iv (((p5.toUInt32 >>> ((5 : Int32) &&& 31).toUInt32).toInt32) &&& (3 : Int32)), .unset, .unset, .unset] [(.ref b176), (.ref b176)])) _
              refine st191.trans ?_
              exact kt
            obtain ⟨fs, hr, hrun, hended, hW, hsame⟩ := X191.leave (v := some (.int (1 : Int32))) (fun h => by rw [Bd.returns] at h; cases h)
            refine ⟨_, _, pre192 _ ?_, hrun, hended, _, _, rfl, ?_, ⟨_, rfl⟩, hW, hsame.mono (by decide) (by decide)⟩
            · show Steps p.tables e below (T191.setTop (mkF m 229 #[iv p0, iv p1, iv p2, iv p3, iv p4, iv p5, iv ra, iv rb, iv ib, iv cb, iv ca0, iv ca1, iv cb0, iv cb1, iv (1 : Int32), iv (1 : Int32), rv x172, rv x174, rv b176, iv (((p5.toUInt32 >>> ((5 : Int32) &&& 31).toUInt32).toInt32) &&& (3 : Int32)), .unset, .unset, .unset] [(.int (1 : Int32))])) _
              exact retN X191 hx (t := .boolean) Bd.returns (by simp) (hb hby at_229) hr
            · show Q0 Z p0 p1 p2 p3 p4 p5 aK aP aS aR cs h0 n0 _ T191.heap _
              rw [hh191]
              exact ⟨rfl, N191⟩
          · have pre193 : ∀ t, Steps p.tables e below (T180.setTop (mkF m 230 #[iv p0, iv p1, iv p2, iv p3, iv p4, iv p5, iv ra, iv rb, iv ib, iv cb, iv ca0, iv ca1, iv cb0, iv cb1, iv (1 : Int32), iv (1 : Int32), rv x172, rv x174, rv b176, iv (((p5.toUInt32 >>> ((5 : Int32) &&& 31).toUInt32).toInt32) &&& (3 : Int32)), .unset, .unset, .unset] [])) t → Steps p.tables e below (s₁.setTop (entryFrame m #[(.int p0), (.int p1), (.int p2), (.int p3), (.int p4), (.int p5)] maxLocals)) t := by
              intro t kt
              refine pre189 _ ?_
              show Steps p.tables e below (T180.setTop (mkF m 219 #[iv p0, iv p1, iv p2, iv p3, iv p4, iv p5, iv ra, iv rb, iv ib, iv cb, iv ca0, iv ca1, iv cb0, iv cb1, iv (1 : Int32), iv (1 : Int32), rv x172, rv x174, rv b176, iv (((p5.toUInt32 >>> ((5 : Int32) &&& 31).toUInt32).toInt32) &&& (3 : Int32)), .unset, .unset, .unset] [(.int (2 : Int32)), (.int (((p5.toUInt32 >>> ((5 : Int32) &&& 31).toUInt32).toInt32) &&& (3 : Int32)))])) _
              refine XS.icmpYes X180.here hx rfl (pc0 := 219) (pc' := 230) rfl (hb hby at_219) rfl (feq hc219).2 (by decide) (by decide) ?_
              exact kt
            obtain ⟨T194, h194, X194, e194, E194, A194, D194, -, st194⟩ := newO X180 hx hZ hown (hw _ (List.mem_of_getElem? (i := 34) rfl)) (hw _ (List.mem_of_getElem? (i := 35) rfl)) (hw _ (List.mem_of_getElem? (i := 36) rfl)) rfl (g := (mkF m 230 #[iv p0, iv p1, iv p2, iv p3, iv p4, iv p5, iv ra, iv rb, iv ib, iv cb, iv ca0, iv ca1, iv cb0, iv cb1, iv (1 : Int32), iv (1 : Int32), rv x172, rv x174, rv b176, iv (((p5.toUInt32 >>> ((5 : Int32) &&& 31).toUInt32).toInt32) &&& (3 : Int32)), .unset, .unset, .unset] [])) rfl (hb hby at_230) (by decide) (by decide)
            obtain ⟨b194, g194⟩ : ∃ z, z = T180.heap.size := ⟨_, rfl⟩
            rw [← g194] at A194 D194 st194
            have g_b194 : n0 ≤ b194 := Nat.le_trans (Nat.le_trans Z0 K180.1) (Nat.le_of_eq g194.symm)
            have sz_b194 : h0.size ≤ b194 := Nat.le_trans K180.1 (Nat.le_of_eq g194.symm)
            have F_reason_b194 : Fld Z h194 b194 "com/example/fair_witness/fairwitness/verifier/DecodingFailure" "reason" "Lcom/example/fair_witness/fairwitness/verifier/Reason;" .null := D194 (Or.inr (hw _ (List.mem_of_getElem? (i := 48) rfl))) (ty := (.object "com/example/fair_witness/fairwitness/verifier/Reason")) (by decide)
            have F_certificateIndex_b194 : Fld Z h194 b194 "com/example/fair_witness/fairwitness/verifier/DecodingFailure" "certificateIndex" "I" (.int (0 : Int32)) := D194 (Or.inr (hw _ (List.mem_of_getElem? (i := 50) rfl))) (ty := .int) (by decide)
            have F_detail_b194 : Fld Z h194 b194 "com/example/fair_witness/fairwitness/verifier/DecodingFailure" "detail" "Ljava/lang/String;" .null := D194 (Or.inr (hw _ (List.mem_of_getElem? (i := 52) rfl))) (ty := (.object "java/lang/String")) (by decide)
            have K194 : Keep h0 h194 [] := K180.ext E194
            have pre195 : ∀ t, Steps p.tables e below (T194.setTop (mkF m 236 #[iv p0, iv p1, iv p2, iv p3, iv p4, iv p5, iv ra, iv rb, iv ib, iv cb, iv ca0, iv ca1, iv cb0, iv cb1, iv (1 : Int32), iv (1 : Int32), rv x172, rv x174, rv b176, iv (((p5.toUInt32 >>> ((5 : Int32) &&& 31).toUInt32).toInt32) &&& (3 : Int32)), .unset, .unset, .unset] [(.int rb), (.ref b194), (.ref b194)])) t → Steps p.tables e below (s₁.setTop (entryFrame m #[(.int p0), (.int p1), (.int p2), (.int p3), (.int p4), (.int p5)] maxLocals)) t := by
              intro t kt
              refine pre193 _ ?_
              show Steps p.tables e below (T180.setTop (mkF m 230 #[iv p0, iv p1, iv p2, iv p3, iv p4, iv p5, iv ra, iv rb, iv ib, iv cb, iv ca0, iv ca1, iv cb0, iv cb1, iv (1 : Int32), iv (1 : Int32), rv x172, rv x174, rv b176, iv (((p5.toUInt32 >>> ((5 : Int32) &&& 31).toUInt32).toInt32) &&& (3 : Int32)), .unset, .unset, .unset] [])) _
              refine st194 _ ?_
              show Steps p.tables e below (T194.setTop (mkF m 233 #[iv p0, iv p1, iv p2, iv p3, iv p4, iv p5, iv ra, iv rb, iv ib, iv cb, iv ca0, iv ca1, iv cb0, iv cb1, iv (1 : Int32), iv (1 : Int32), rv x172, rv x174, rv b176, iv (((p5.toUInt32 >>> ((5 : Int32) &&& 31).toUInt32).toInt32) &&& (3 : Int32)), .unset, .unset, .unset] [(.ref b194)])) _
              refine XS.dup X194.here hx rfl (hb hby at_233) rfl rfl ?_
              show Steps p.tables e below (T194.setTop (mkF m 234 #[iv p0, iv p1, iv p2, iv p3, iv p4, iv p5, iv ra, iv rb, iv ib, iv cb, iv ca0, iv ca1, iv cb0, iv cb1, iv (1 : Int32), iv (1 : Int32), rv x172, rv x174, rv b176, iv (((p5.toUInt32 >>> ((5 : Int32) &&& 31).toUInt32).toInt32) &&& (3 : Int32)), .unset, .unset, .unset] [(.ref b194), (.ref b194)])) _
              refine XS.iload X194.here hx rfl (hb hby at_234) rfl ?_
              exact kt
            obtain ⟨_, _, ⟨T196, L196, k196, n196⟩, -, X196, ⟨Lc196, hQ196, l196, y196, z196⟩, st196⟩ := Jvm.LawKit.callS X194 hx (y := (⟨"com/example/fair_witness/fairwitness/verifier/DecodingFailureEqualsPinLaw", "reason", "(I)Lcom/example/fair_witness/fairwitness/verifier/Reason;"⟩ : MethodName)) hown (mvT hZ (hw _ (List.mem_of_getElem? (i := 37) rfl))) (mvT hZ (hw _ (List.mem_of_getElem? (i := 38) rfl))) (mvT hZ (hw _ (List.mem_of_getElem? (i := 2) rfl))) (mvT hZ (hw _ (List.mem_of_getElem? (i := 39) rfl))) (by decide) (backOf (W := 2) (rm8 l Z a0 hw [] rb aK aP aS aR h194 n0 (Nat.le_trans Z0 K194.1) (O0.keep K194 all0) S_KEY_DESCRIPTION_INVALID S_PROVISIONING_INFO_INVALID S_SIGNATURE_INVALID S_ROOT_NOT_TRUSTED) hZ (hw _ (List.mem_of_getElem? (i := 39) rfl)) (hw _ (List.mem_of_getElem? (i := 2) rfl)) (by decide) (by decide)) (g := (mkF m 236 #[iv p0, iv p1, iv p2, iv p3, iv p4, iv p5, iv ra, iv rb, iv ib, iv cb, iv ca0, iv ca1, iv cb0, iv cb1, iv (1 : Int32), iv (1 : Int32), rv x172, rv x174, rv b176, iv (((p5.toUInt32 >>> ((5 : Int32) &&& 31).toUInt32).toInt32) &&& (3 : Int32)), .unset, .unset, .unset] [(.int rb), (.ref b194), (.ref b194)])) rfl (by rw [hml]; rfl) (argsL := [(.int rb)]) (rest := [(.ref b194), (.ref b194)]) (lenOf pd17 rfl) rfl (by show 2 * 0 + _ ≤ _; exact Nat.le_of_eq rfl) (hb hby at_236) (fun _ _ => ⟨rfl, e194, (by decide : 6 + 0 ≤ _), (by decide : 16 + 0 ≤ _)⟩)
            dsimp only [Pt.U, Pt.locs, Pt.cells, Pt.slots] at X196 l196 y196 z196 st196 hQ196
            subst l196 y196 z196
            obtain ⟨rfl, N196q, hh196⟩ := hQ196
            have N196 := Fr.app N180 N196q
            have pre197 : ∀ t, Steps p.tables e below (T196.setTop (mkF m 243 #[iv p0, iv p1, iv p2, iv p3, iv p4, iv p5, iv ra, iv rb, iv ib, iv cb, iv ca0, iv ca1, iv cb0, iv cb1, iv (1 : Int32), iv (1 : Int32), rv x172, rv x174, rv b176, iv (((p5.toUInt32 >>> ((5 : Int32) &&& 31).toUInt32).toInt32) &&& (3 : Int32)), .unset, .unset, .unset] [(.ref x174), (.int ib), (.ref (own_rs aK aP aS aR rb)), (.ref b194), (.ref b194)])) t → Steps p.tables e below (s₁.setTop (entryFrame m #[(.int p0), (.int p1), (.int p2), (.int p3), (.int p4), (.int p5)] maxLocals)) t := by
              intro t kt
              refine pre195 _ ?_
              show Steps p.tables e below (T194.setTop (mkF m 236 #[iv p0, iv p1, iv p2, iv p3, iv p4, iv p5, iv ra, iv rb, iv ib, iv cb, iv ca0, iv ca1, iv cb0, iv cb1, iv (1 : Int32), iv (1 : Int32), rv x172, rv x174, rv b176, iv (((p5.toUInt32 >>> ((5 : Int32) &&& 31).toUInt32).toInt32) &&& (3 : Int32)), .unset, .unset, .unset] [(.int rb), (.ref b194), (.ref b194)])) _
              refine st196 _ ?_
              show Steps p.tables e below (T196.setTop (mkF m 239 #[iv p0, iv p1, iv p2, iv p3, iv p4, iv p5, iv ra, iv rb, iv ib, iv cb, iv ca0, iv ca1, iv cb0, iv cb1, iv (1 : Int32), iv (1 : Int32), rv x172, rv x174, rv b176, iv (((p5.toUInt32 >>> ((5 : Int32) &&& 31).toUInt32).toInt32) &&& (3 : Int32)), .unset, .unset, .unset] [(.ref (own_rs aK aP aS aR rb)), (.ref b194), (.ref b194)])) _
              refine XS.iload X196.here hx rfl (hb hby at_239) rfl ?_
              show Steps p.tables e below (T196.setTop (mkF m 241 #[iv p0, iv p1, iv p2, iv p3, iv p4, iv p5, iv ra, iv rb, iv ib, iv cb, iv ca0, iv ca1, iv cb0, iv cb1, iv (1 : Int32), iv (1 : Int32), rv x172, rv x174, rv b176, iv (((p5.toUInt32 >>> ((5 : Int32) &&& 31).toUInt32).toInt32) &&& (3 : Int32)), .unset, .unset, .unset] [(.int ib), (.ref (own_rs aK aP aS aR rb)), (.ref b194), (.ref b194)])) _
              refine XS.aload X196.here hx rfl (hb hby at_241) rfl rfl ?_
              exact kt
            obtain ⟨_, _, ⟨T198, L198, k198, n198⟩, -, X198, ⟨Lc198, hQ198, l198, y198, z198⟩, st198⟩ := X196.specialBack hx (y := (⟨"com/example/fair_witness/fairwitness/verifier/DecodingFailure", "<init>", "(Lcom/example/fair_witness/fairwitness/verifier/Reason;ILjava/lang/String;)V"⟩ : MethodName)) rfl hown (mvT hZ (hw _ (List.mem_of_getElem? (i := 43) rfl))) (mvT hZ (hw _ (List.mem_of_getElem? (i := 44) rfl))) (mvT hZ (hw _ (List.mem_of_getElem? (i := 45) rfl))) (by decide) (backOf (W := 1) (rm9 l Z a0 hw [] b194 (own_rs aK aP aS aR rb) ib x174 h194 n0 (Nat.le_trans Z0 K194.1) F_reason_b194 F_certificateIndex_b194 F_detail_b194 A194 g_b194) hZ (hw _ (List.mem_of_getElem? (i := 45) rfl)) (hw _ (List.mem_of_getElem? (i := 36) rfl)) (by decide) (by decide)) (g := (mkF m 243 #[iv p0, iv p1, iv p2, iv p3, iv p4, iv p5, iv ra, iv rb, iv ib, iv cb, iv ca0, iv ca1, iv cb0, iv cb1, iv (1 : Int32), iv (1 : Int32), rv x172, rv x174, rv b176, iv (((p5.toUInt32 >>> ((5 : Int32) &&& 31).toUInt32).toInt32) &&& (3 : Int32)), .unset, .unset, .unset] [(.ref x174), (.int ib), (.ref (own_rs aK aP aS aR rb)), (.ref b194), (.ref b194)])) rfl (by rw [hml]; rfl) (Steps.refl _) (a := b194) (argsL := [(.ref (own_rs aK aP aS aR rb)), (.int ib), (.ref x174)]) (rest := [(.ref b194)]) (lenOf pd18 rfl) rfl (by show 2 * 0 + _ ≤ _; exact Nat.le_of_eq rfl) (hb hby at_243) (fun _ _ => ⟨rfl, hh196, (by decide : 6 + 0 ≤ _), (by decide : 16 + 0 ≤ _)⟩)
            dsimp only [Pt.U, Pt.locs, Pt.cells, Pt.slots] at X198 l198 y198 z198 st198 hQ198
            subst l198 y198 z198
            obtain ⟨rfl, N198q, Kc198, F0_198, F1_198, F2_198⟩ := hQ198
            have N198 := Fr.app N196 N198q
            have K198 : Keep h0 T198.heap [] := K194.trans Kc198 (allS (Or.inr sz_b194) all0)
            have pre199 : ∀ t, Steps p.tables e below (T198.setTop (mkF m 248 #[iv p0, iv p1, iv p2, iv p3, iv p4, iv p5, iv ra, iv rb, iv ib, iv cb, iv ca0, iv ca1, iv cb0, iv cb1, iv (1 : Int32), iv (1 : Int32), rv x172, rv x174, rv b176, iv (((p5.toUInt32 >>> ((5 : Int32) &&& 31).toUInt32).toInt32) &&& (3 : Int32)), rv b194, .unset, .unset] [])) t → Steps p.tables e below (s₁.setTop (entryFrame m #[(.int p0), (.int p1), (.int p2), (.int p3), (.int p4), (.int p5)] maxLocals)) t := by
              intro t kt
              refine pre197 _ ?_
              show Steps p.tables e below (T196.setTop (mkF m 243 #[iv p0, iv p1, iv p2, iv p3, iv p4, iv p5, iv ra, iv rb, iv ib, iv cb, iv ca0, iv ca1, iv cb0, iv cb1, iv (1 : Int32), iv (1 : Int32), rv x172, rv x174, rv b176, iv (((p5.toUInt32 >>> ((5 : Int32) &&& 31).toUInt32).toInt32) &&& (3 : Int32)), .unset, .unset, .unset] [(.ref x174), (.int ib), (.ref (own_rs aK aP aS aR rb)), (.ref b194), (.ref b194)])) _
              refine st198.trans ?_
              show Steps p.tables e below (T198.setTop (mkF m 246 #[iv p0, iv p1, iv p2, iv p3, iv p4, iv p5, iv ra, iv rb, iv ib, iv cb, iv ca0, iv ca1, iv cb0, iv cb1, iv (1 : Int32), iv (1 : Int32), rv x172, rv x174, rv b176, iv (((p5.toUInt32 >>> ((5 : Int32) &&& 31).toUInt32).toInt32) &&& (3 : Int32)), .unset, .unset, .unset] [(.ref b194)])) _
              refine XS.astore X198.here hx rfl (hb hby at_246) rfl rfl (l' := #[iv p0, iv p1, iv p2, iv p3, iv p4, iv p5, iv ra, iv rb, iv ib, iv cb, iv ca0, iv ca1, iv cb0, iv cb1, iv (1 : Int32), iv (1 : Int32), rv x172, rv x174, rv b176, iv (((p5.toUInt32 >>> ((5 : Int32) &&& 31).toUInt32).toInt32) &&& (3 : Int32)), rv b194, .unset, .unset]) rfl ?_
              exact kt
            obtain ⟨sd, hsd, pre204⟩ : ∃ (sd : Int32), (((ca0 = cb0) ∧ sd = (1 : Int32)) ∨ ((¬ (ca0 = cb0)) ∧ sd = (0 : Int32))) ∧ ∀ t, Steps p.tables e below (T198.setTop (mkF m 279 #[iv p0, iv p1, iv p2, iv p3, iv p4, iv p5, iv ra, iv rb, iv ib, iv cb, iv ca0, iv ca1, iv cb0, iv cb1, iv (1 : Int32), iv (1 : Int32), rv x172, rv x174, rv b176, iv (((p5.toUInt32 >>> ((5 : Int32) &&& 31).toUInt32).toInt32) &&& (3 : Int32)), rv b194, .unset, .unset] [(.int sd)])) t → Steps p.tables e below (s₁.setTop (entryFrame m #[(.int p0), (.int p1), (.int p2), (.int p3), (.int p4), (.int p5)] maxLocals)) t := by
              have pre200 : ∀ t, Steps p.tables e below (T198.setTop (mkF m 259 #[iv p0, iv p1, iv p2, iv p3, iv p4, iv p5, iv ra, iv rb, iv ib, iv cb, iv ca0, iv ca1, iv cb0, iv cb1, iv (1 : Int32), iv (1 : Int32), rv x172, rv x174, rv b176, iv (((p5.toUInt32 >>> ((5 : Int32) &&& 31).toUInt32).toInt32) &&& (3 : Int32)), rv b194, .unset, .unset] [(.int cb0), (.int ca0)])) t → Steps p.tables e below (s₁.setTop (entryFrame m #[(.int p0), (.int p1), (.int p2), (.int p3), (.int p4), (.int p5)] maxLocals)) t := by
                intro t kt
                refine pre199 _ ?_
                show Steps p.tables e below (T198.setTop (mkF m 248 #[iv p0, iv p1, iv p2, iv p3, iv p4, iv p5, iv ra, iv rb, iv ib, iv cb, iv ca0, iv ca1, iv cb0, iv cb1, iv (1 : Int32), iv (1 : Int32), rv x172, rv x174, rv b176, iv (((p5.toUInt32 >>> ((5 : Int32) &&& 31).toUInt32).toInt32) &&& (3 : Int32)), rv b194, .unset, .unset] [])) _
                refine XS.iload X198.here hx rfl (hb hby at_248) rfl ?_
                show Steps p.tables e below (T198.setTop (mkF m 250 #[iv p0, iv p1, iv p2, iv p3, iv p4, iv p5, iv ra, iv rb, iv ib, iv cb, iv ca0, iv ca1, iv cb0, iv cb1, iv (1 : Int32), iv (1 : Int32), rv x172, rv x174, rv b176, iv (((p5.toUInt32 >>> ((5 : Int32) &&& 31).toUInt32).toInt32) &&& (3 : Int32)), rv b194, .unset, .unset] [(.int (1 : Int32))])) _
                refine XS.iload X198.here hx rfl (hb hby at_250) rfl ?_
                show Steps p.tables e below (T198.setTop (mkF m 252 #[iv p0, iv p1, iv p2, iv p3, iv p4, iv p5, iv ra, iv rb, iv ib, iv cb, iv ca0, iv ca1, iv cb0, iv cb1, iv (1 : Int32), iv (1 : Int32), rv x172, rv x174, rv b176, iv (((p5.toUInt32 >>> ((5 : Int32) &&& 31).toUInt32).toInt32) &&& (3 : Int32)), rv b194, .unset, .unset] [(.int (1 : Int32)), (.int (1 : Int32))])) _
                refine XS.icmpNo X198.here hx rfl (hb hby at_252) rfl (teq (by decide)).2 ?_
                show Steps p.tables e below (T198.setTop (mkF m 255 #[iv p0, iv p1, iv p2, iv p3, iv p4, iv p5, iv ra, iv rb, iv ib, iv cb, iv ca0, iv ca1, iv cb0, iv cb1, iv (1 : Int32), iv (1 : Int32), rv x172, rv x174, rv b176, iv (((p5.toUInt32 >>> ((5 : Int32) &&& 31).toUInt32).toInt32) &&& (3 : Int32)), rv b194, .unset, .unset] [])) _
                refine XS.iload X198.here hx rfl (hb hby at_255) rfl ?_
                show Steps p.tables e below (T198.setTop (mkF m 257 #[iv p0, iv p1, iv p2, iv p3, iv p4, iv p5, iv ra, iv rb, iv ib, iv cb, iv ca0, iv ca1, iv cb0, iv cb1, iv (1 : Int32), iv (1 : Int32), rv x172, rv x174, rv b176, iv (((p5.toUInt32 >>> ((5 : Int32) &&& 31).toUInt32).toInt32) &&& (3 : Int32)), rv b194, .unset, .unset] [(.int ca0)])) _
                refine XS.iload X198.here hx rfl (hb hby at_257) rfl ?_
                exact kt
              by_cases hc259 : ca0 = cb0
              · have pre201 : ∀ t, Steps p.tables e below (T198.setTop (mkF m 279 #[iv p0, iv p1, iv p2, iv p3, iv p4, iv p5, iv ra, iv rb, iv ib, iv cb, iv ca0, iv ca1, iv cb0, iv cb1, iv (1 : Int32), iv (1 : Int32), rv x172, rv x174, rv b176, iv (((p5.toUInt32 >>> ((5 : Int32) &&& 31).toUInt32).toInt32) &&& (3 : Int32)), rv b194, .unset, .unset] [(.int (1 : Int32))])) t → Steps p.tables e below (s₁.setTop (entryFrame m #[(.int p0), (.int p1), (.int p2), (.int p3), (.int p4), (.int p5)] maxLocals)) t := by
                  intro t kt
                  refine pre200 _ ?_
                  show Steps p.tables e below (T198.setTop (mkF m 259 #[iv p0, iv p1, iv p2, iv p3, iv p4, iv p5, iv ra, iv rb, iv ib, iv cb, iv ca0, iv ca1, iv cb0, iv cb1, iv (1 : Int32), iv (1 : Int32), rv x172, rv x174, rv b176, iv (((p5.toUInt32 >>> ((5 : Int32) &&& 31).toUInt32).toInt32) &&& (3 : Int32)), rv b194, .unset, .unset] [(.int cb0), (.int ca0)])) _
                  refine XS.icmpNo X198.here hx rfl (hb hby at_259) rfl (teq hc259).2 ?_
                  show Steps p.tables e below (T198.setTop (mkF m 262 #[iv p0, iv p1, iv p2, iv p3, iv p4, iv p5, iv ra, iv rb, iv ib, iv cb, iv ca0, iv ca1, iv cb0, iv cb1, iv (1 : Int32), iv (1 : Int32), rv x172, rv x174, rv b176, iv (((p5.toUInt32 >>> ((5 : Int32) &&& 31).toUInt32).toInt32) &&& (3 : Int32)), rv b194, .unset, .unset] [])) _
                  refine XS.iload X198.here hx rfl (hb hby at_262) rfl ?_
                  show Steps p.tables e below (T198.setTop (mkF m 264 #[iv p0, iv p1, iv p2, iv p3, iv p4, iv p5, iv ra, iv rb, iv ib, iv cb, iv ca0, iv ca1, iv cb0, iv cb1, iv (1 : Int32), iv (1 : Int32), rv x172, rv x174, rv b176, iv (((p5.toUInt32 >>> ((5 : Int32) &&& 31).toUInt32).toInt32) &&& (3 : Int32)), rv b194, .unset, .unset] [(.int (1 : Int32))])) _
                  refine XS.ifYes X198.here hx rfl (pc0 := 264) (pc' := 274) rfl (hb hby at_264) rfl ((if0 _ _).trans (feq (by decide)).2) (by decide) (by decide) ?_
                  show Steps p.tables e below (T198.setTop (mkF m 274 #[iv p0, iv p1, iv p2, iv p3, iv p4, iv p5, iv ra, iv rb, iv ib, iv cb, iv ca0, iv ca1, iv cb0, iv cb1, iv (1 : Int32), iv (1 : Int32), rv x172, rv x174, rv b176, iv (((p5.toUInt32 >>> ((5 : Int32) &&& 31).toUInt32).toInt32) &&& (3 : Int32)), rv b194, .unset, .unset] [])) _
                  refine XS.iconst X198.here hx rfl (hb hby at_274) ?_
                  show Steps p.tables e below (T198.setTop (mkF m 275 #[iv p0, iv p1, iv p2, iv p3, iv p4, iv p5, iv ra, iv rb, iv ib, iv cb, iv ca0, iv ca1, iv cb0, iv cb1, iv (1 : Int32), iv (1 : Int32), rv x172, rv x174, rv b176, iv (((p5.toUInt32 >>> ((5 : Int32) &&& 31).toUInt32).toInt32) &&& (3 : Int32)), rv b194, .unset, .unset] [(.int (1 : Int32))])) _
                  refine XS.goto X198.here hx rfl (pc0 := 275) (pc' := 279) rfl (hb hby at_275) (by decide) (by decide) ?_
                  exact kt
                exact ⟨(1 : Int32), Or.inl ⟨hc259, rfl⟩, pre201⟩
              · have pre202 : ∀ t, Steps p.tables e below (T198.setTop (mkF m 279 #[iv p0, iv p1, iv p2, iv p3, iv p4, iv p5, iv ra, iv rb, iv ib, iv cb, iv ca0, iv ca1, iv cb0, iv cb1, iv (1 : Int32), iv (1 : Int32), rv x172, rv x174, rv b176, iv (((p5.toUInt32 >>> ((5 : Int32) &&& 31).toUInt32).toInt32) &&& (3 : Int32)), rv b194, .unset, .unset] [(.int (0 : Int32))])) t → Steps p.tables e below (s₁.setTop (entryFrame m #[(.int p0), (.int p1), (.int p2), (.int p3), (.int p4), (.int p5)] maxLocals)) t := by
                  intro t kt
                  refine pre200 _ ?_
                  show Steps p.tables e below (T198.setTop (mkF m 259 #[iv p0, iv p1, iv p2, iv p3, iv p4, iv p5, iv ra, iv rb, iv ib, iv cb, iv ca0, iv ca1, iv cb0, iv cb1, iv (1 : Int32), iv (1 : Int32), rv x172, rv x174, rv b176, iv (((p5.toUInt32 >>> ((5 : Int32) &&& 31).toUInt32).toInt32) &&& (3 : Int32)), rv b194, .unset, .unset] [(.int cb0), (.int ca0)])) _
                  refine XS.icmpYes X198.here hx rfl (pc0 := 259) (pc' := 278) rfl (hb hby at_259) rfl (feq hc259).2 (by decide) (by decide) ?_
                  show Steps p.tables e below (T198.setTop (mkF m 278 #[iv p0, iv p1, iv p2, iv p3, iv p4, iv p5, iv ra, iv rb, iv ib, iv cb, iv ca0, iv ca1, iv cb0, iv cb1, iv (1 : Int32), iv (1 : Int32), rv x172, rv x174, rv b176, iv (((p5.toUInt32 >>> ((5 : Int32) &&& 31).toUInt32).toInt32) &&& (3 : Int32)), rv b194, .unset, .unset] [])) _
                  refine XS.iconst X198.here hx rfl (hb hby at_278) ?_
                  exact kt
                exact ⟨(0 : Int32), Or.inr (⟨hc259, rfl⟩), pre202⟩
            have pre205 : ∀ t, Steps p.tables e below (T198.setTop (mkF m 281 #[iv p0, iv p1, iv p2, iv p3, iv p4, iv p5, iv ra, iv rb, iv ib, iv cb, iv ca0, iv ca1, iv cb0, iv cb1, iv (1 : Int32), iv (1 : Int32), rv x172, rv x174, rv b176, iv (((p5.toUInt32 >>> ((5 : Int32) &&& 31).toUInt32).toInt32) &&& (3 : Int32)), rv b194, iv sd, .unset] [])) t → Steps p.tables e below (s₁.setTop (entryFrame m #[(.int p0), (.int p1), (.int p2), (.int p3), (.int p4), (.int p5)] maxLocals)) t := by
              intro t kt
              refine pre204 _ ?_
              show Steps p.tables e below (T198.setTop (mkF m 279 #[iv p0, iv p1, iv p2, iv p3, iv p4, iv p5, iv ra, iv rb, iv ib, iv cb, iv ca0, iv ca1, iv cb0, iv cb1, iv (1 : Int32), iv (1 : Int32), rv x172, rv x174, rv b176, iv (((p5.toUInt32 >>> ((5 : Int32) &&& 31).toUInt32).toInt32) &&& (3 : Int32)), rv b194, .unset, .unset] [(.int sd)])) _
              refine XS.istore X198.here hx rfl (hb hby at_279) rfl (l' := #[iv p0, iv p1, iv p2, iv p3, iv p4, iv p5, iv ra, iv rb, iv ib, iv cb, iv ca0, iv ca1, iv cb0, iv cb1, iv (1 : Int32), iv (1 : Int32), rv x172, rv x174, rv b176, iv (((p5.toUInt32 >>> ((5 : Int32) &&& 31).toUInt32).toInt32) &&& (3 : Int32)), rv b194, iv sd, .unset]) rfl ?_
              exact kt
            obtain ⟨ex, hex, pre214⟩ : ∃ (ex : Int32), (((ra = rb) ∧ (p1 = ib) ∧ (sd = (0 : Int32)) ∧ ex = (0 : Int32)) ∨ ((ra = rb) ∧ (p1 = ib) ∧ (¬ (sd = (0 : Int32))) ∧ ex = (1 : Int32)) ∨ ((ra = rb) ∧ (¬ (p1 = ib)) ∧ ex = (0 : Int32)) ∨ ((¬ (ra = rb)) ∧ ex = (0 : Int32))) ∧ ∀ t, Steps p.tables e below (T198.setTop (mkF m 304 #[iv p0, iv p1, iv p2, iv p3, iv p4, iv p5, iv ra, iv rb, iv ib, iv cb, iv ca0, iv ca1, iv cb0, iv cb1, iv (1 : Int32), iv (1 : Int32), rv x172, rv x174, rv b176, iv (((p5.toUInt32 >>> ((5 : Int32) &&& 31).toUInt32).toInt32) &&& (3 : Int32)), rv b194, iv sd, .unset] [(.int ex)])) t → Steps p.tables e below (s₁.setTop (entryFrame m #[(.int p0), (.int p1), (.int p2), (.int p3), (.int p4), (.int p5)] maxLocals)) t := by
              have pre206 : ∀ t, Steps p.tables e below (T198.setTop (mkF m 285 #[iv p0, iv p1, iv p2, iv p3, iv p4, iv p5, iv ra, iv rb, iv ib, iv cb, iv ca0, iv ca1, iv cb0, iv cb1, iv (1 : Int32), iv (1 : Int32), rv x172, rv x174, rv b176, iv (((p5.toUInt32 >>> ((5 : Int32) &&& 31).toUInt32).toInt32) &&& (3 : Int32)), rv b194, iv sd, .unset] [(.int rb), (.int ra)])) t → Steps p.tables e below (s₁.setTop (entryFrame m #[(.int p0), (.int p1), (.int p2), (.int p3), (.int p4), (.int p5)] maxLocals)) t := by
                intro t kt
                refine pre205 _ ?_
                show Steps p.tables e below (T198.setTop (mkF m 281 #[iv p0, iv p1, iv p2, iv p3, iv p4, iv p5, iv ra, iv rb, iv ib, iv cb, iv ca0, iv ca1, iv cb0, iv cb1, iv (1 : Int32), iv (1 : Int32), rv x172, rv x174, rv b176, iv (((p5.toUInt32 >>> ((5 : Int32) &&& 31).toUInt32).toInt32) &&& (3 : Int32)), rv b194, iv sd, .unset] [])) _
                refine XS.iload X198.here hx rfl (hb hby at_281) rfl ?_
                show Steps p.tables e below (T198.setTop (mkF m 283 #[iv p0, iv p1, iv p2, iv p3, iv p4, iv p5, iv ra, iv rb, iv ib, iv cb, iv ca0, iv ca1, iv cb0, iv cb1, iv (1 : Int32), iv (1 : Int32), rv x172, rv x174, rv b176, iv (((p5.toUInt32 >>> ((5 : Int32) &&& 31).toUInt32).toInt32) &&& (3 : Int32)), rv b194, iv sd, .unset] [(.int ra)])) _
                refine XS.iload X198.here hx rfl (hb hby at_283) rfl ?_
                exact kt
              by_cases hc285 : ra = rb
              · have pre207 : ∀ t, Steps p.tables e below (T198.setTop (mkF m 291 #[iv p0, iv p1, iv p2, iv p3, iv p4, iv p5, iv ra, iv rb, iv ib, iv cb, iv ca0, iv ca1, iv cb0, iv cb1, iv (1 : Int32), iv (1 : Int32), rv x172, rv x174, rv b176, iv (((p5.toUInt32 >>> ((5 : Int32) &&& 31).toUInt32).toInt32) &&& (3 : Int32)), rv b194, iv sd, .unset] [(.int ib), (.int p1)])) t → Steps p.tables e below (s₁.setTop (entryFrame m #[(.int p0), (.int p1), (.int p2), (.int p3), (.int p4), (.int p5)] maxLocals)) t := by
                  intro t kt
                  refine pre206 _ ?_
                  show Steps p.tables e below (T198.setTop (mkF m 285 #[iv p0, iv p1, iv p2, iv p3, iv p4, iv p5, iv ra, iv rb, iv ib, iv cb, iv ca0, iv ca1, iv cb0, iv cb1, iv (1 : Int32), iv (1 : Int32), rv x172, rv x174, rv b176, iv (((p5.toUInt32 >>> ((5 : Int32) &&& 31).toUInt32).toInt32) &&& (3 : Int32)), rv b194, iv sd, .unset] [(.int rb), (.int ra)])) _
                  refine XS.icmpNo X198.here hx rfl (hb hby at_285) rfl (teq hc285).2 ?_
                  show Steps p.tables e below (T198.setTop (mkF m 288 #[iv p0, iv p1, iv p2, iv p3, iv p4, iv p5, iv ra, iv rb, iv ib, iv cb, iv ca0, iv ca1, iv cb0, iv cb1, iv (1 : Int32), iv (1 : Int32), rv x172, rv x174, rv b176, iv (((p5.toUInt32 >>> ((5 : Int32) &&& 31).toUInt32).toInt32) &&& (3 : Int32)), rv b194, iv sd, .unset] [])) _
                  refine XS.iloadN X198.here hx rfl (hb hby at_288) rfl ?_
                  show Steps p.tables e below (T198.setTop (mkF m 289 #[iv p0, iv p1, iv p2, iv p3, iv p4, iv p5, iv ra, iv rb, iv ib, iv cb, iv ca0, iv ca1, iv cb0, iv cb1, iv (1 : Int32), iv (1 : Int32), rv x172, rv x174, rv b176, iv (((p5.toUInt32 >>> ((5 : Int32) &&& 31).toUInt32).toInt32) &&& (3 : Int32)), rv b194, iv sd, .unset] [(.int p1)])) _
                  refine XS.iload X198.here hx rfl (hb hby at_289) rfl ?_
                  exact kt
                by_cases hc291 : p1 = ib
                · have pre208 : ∀ t, Steps p.tables e below (T198.setTop (mkF m 296 #[iv p0, iv p1, iv p2, iv p3, iv p4, iv p5, iv ra, iv rb, iv ib, iv cb, iv ca0, iv ca1, iv cb0, iv cb1, iv (1 : Int32), iv (1 : Int32), rv x172, rv x174, rv b176, iv (((p5.toUInt32 >>> ((5 : Int32) &&& 31).toUInt32).toInt32) &&& (3 : Int32)), rv b194, iv sd, .unset] [(.int sd)])) t → Steps p.tables e below (s₁.setTop (entryFrame m #[(.int p0), (.int p1), (.int p2), (.int p3), (.int p4), (.int p5)] maxLocals)) t := by
                    intro t kt
                    refine pre207 _ ?_
                    show Steps p.tables e below (T198.setTop (mkF m 291 #[iv p0, iv p1, iv p2, iv p3, iv p4, iv p5, iv ra, iv rb, iv ib, iv cb, iv ca0, iv ca1, iv cb0, iv cb1, iv (1 : Int32), iv (1 : Int32), rv x172, rv x174, rv b176, iv (((p5.toUInt32 >>> ((5 : Int32) &&& 31).toUInt32).toInt32) &&& (3 : Int32)), rv b194, iv sd, .unset] [(.int ib), (.int p1)])) _
                    refine XS.icmpNo X198.here hx rfl (hb hby at_291) rfl (teq hc291).2 ?_
                    show Steps p.tables e below (T198.setTop (mkF m 294 #[iv p0, iv p1, iv p2, iv p3, iv p4, iv p5, iv ra, iv rb, iv ib, iv cb, iv ca0, iv ca1, iv cb0, iv cb1, iv (1 : Int32), iv (1 : Int32), rv x172, rv x174, rv b176, iv (((p5.toUInt32 >>> ((5 : Int32) &&& 31).toUInt32).toInt32) &&& (3 : Int32)), rv b194, iv sd, .unset] [])) _
                    refine XS.iload X198.here hx rfl (hb hby at_294) rfl ?_
                    exact kt
                  by_cases hc296 : sd = (0 : Int32)
                  · have pre209 : ∀ t, Steps p.tables e below (T198.setTop (mkF m 304 #[iv p0, iv p1, iv p2, iv p3, iv p4, iv p5, iv ra, iv rb, iv ib, iv cb, iv ca0, iv ca1, iv cb0, iv cb1, iv (1 : Int32), iv (1 : Int32), rv x172, rv x174, rv b176, iv (((p5.toUInt32 >>> ((5 : Int32) &&& 31).toUInt32).toInt32) &&& (3 : Int32)), rv b194, iv sd, .unset] [(.int (0 : Int32))])) t → Steps p.tables e below (s₁.setTop (entryFrame m #[(.int p0), (.int p1), (.int p2), (.int p3), (.int p4), (.int p5)] maxLocals)) t := by
                      intro t kt
                      refine pre208 _ ?_
                      show Steps p.tables e below (T198.setTop (mkF m 296 #[iv p0, iv p1, iv p2, iv p3, iv p4, iv p5, iv ra, iv rb, iv ib, iv cb, iv ca0, iv ca1, iv cb0, iv cb1, iv (1 : Int32), iv (1 : Int32), rv x172, rv x174, rv b176, iv (((p5.toUInt32 >>> ((5 : Int32) &&& 31).toUInt32).toInt32) &&& (3 : Int32)), rv b194, iv sd, .unset] [(.int sd)])) _
                      refine XS.ifYes X198.here hx rfl (pc0 := 296) (pc' := 303) rfl (hb hby at_296) rfl ((if0 _ _).trans (teq hc296).1) (by decide) (by decide) ?_
                      show Steps p.tables e below (T198.setTop (mkF m 303 #[iv p0, iv p1, iv p2, iv p3, iv p4, iv p5, iv ra, iv rb, iv ib, iv cb, iv ca0, iv ca1, iv cb0, iv cb1, iv (1 : Int32), iv (1 : Int32), rv x172, rv x174, rv b176, iv (((p5.toUInt32 >>> ((5 : Int32) &&& 31).toUInt32).toInt32) &&& (3 : Int32)), rv b194, iv sd, .unset] [])) _
                      refine XS.iconst X198.here hx rfl (hb hby at_303) ?_
                      exact kt
                    exact ⟨(0 : Int32), Or.inl ⟨hc285, hc291, hc296, rfl⟩, pre209⟩
                  · have pre210 : ∀ t, Steps p.tables e below (T198.setTop (mkF m 304 #[iv p0, iv p1, iv p2, iv p3, iv p4, iv p5, iv ra, iv rb, iv ib, iv cb, iv ca0, iv ca1, iv cb0, iv cb1, iv (1 : Int32), iv (1 : Int32), rv x172, rv x174, rv b176, iv (((p5.toUInt32 >>> ((5 : Int32) &&& 31).toUInt32).toInt32) &&& (3 : Int32)), rv b194, iv sd, .unset] [(.int (1 : Int32))])) t → Steps p.tables e below (s₁.setTop (entryFrame m #[(.int p0), (.int p1), (.int p2), (.int p3), (.int p4), (.int p5)] maxLocals)) t := by
                      intro t kt
                      refine pre208 _ ?_
                      show Steps p.tables e below (T198.setTop (mkF m 296 #[iv p0, iv p1, iv p2, iv p3, iv p4, iv p5, iv ra, iv rb, iv ib, iv cb, iv ca0, iv ca1, iv cb0, iv cb1, iv (1 : Int32), iv (1 : Int32), rv x172, rv x174, rv b176, iv (((p5.toUInt32 >>> ((5 : Int32) &&& 31).toUInt32).toInt32) &&& (3 : Int32)), rv b194, iv sd, .unset] [(.int sd)])) _
                      refine XS.ifNo X198.here hx rfl (hb hby at_296) rfl ((if0 _ _).trans (feq hc296).1) ?_
                      show Steps p.tables e below (T198.setTop (mkF m 299 #[iv p0, iv p1, iv p2, iv p3, iv p4, iv p5, iv ra, iv rb, iv ib, iv cb, iv ca0, iv ca1, iv cb0, iv cb1, iv (1 : Int32), iv (1 : Int32), rv x172, rv x174, rv b176, iv (((p5.toUInt32 >>> ((5 : Int32) &&& 31).toUInt32).toInt32) &&& (3 : Int32)), rv b194, iv sd, .unset] [])) _
                      refine XS.iconst X198.here hx rfl (hb hby at_299) ?_
                      show Steps p.tables e below (T198.setTop (mkF m 300 #[iv p0, iv p1, iv p2, iv p3, iv p4, iv p5, iv ra, iv rb, iv ib, iv cb, iv ca0, iv ca1, iv cb0, iv cb1, iv (1 : Int32), iv (1 : Int32), rv x172, rv x174, rv b176, iv (((p5.toUInt32 >>> ((5 : Int32) &&& 31).toUInt32).toInt32) &&& (3 : Int32)), rv b194, iv sd, .unset] [(.int (1 : Int32))])) _
                      refine XS.goto X198.here hx rfl (pc0 := 300) (pc' := 304) rfl (hb hby at_300) (by decide) (by decide) ?_
                      exact kt
                    exact ⟨(1 : Int32), Or.inr (Or.inl ⟨hc285, hc291, hc296, rfl⟩), pre210⟩
                · have pre211 : ∀ t, Steps p.tables e below (T198.setTop (mkF m 304 #[iv p0, iv p1, iv p2, iv p3, iv p4, iv p5, iv ra, iv rb, iv ib, iv cb, iv ca0, iv ca1, iv cb0, iv cb1, iv (1 : Int32), iv (1 : Int32), rv x172, rv x174, rv b176, iv (((p5.toUInt32 >>> ((5 : Int32) &&& 31).toUInt32).toInt32) &&& (3 : Int32)), rv b194, iv sd, .unset] [(.int (0 : Int32))])) t → Steps p.tables e below (s₁.setTop (entryFrame m #[(.int p0), (.int p1), (.int p2), (.int p3), (.int p4), (.int p5)] maxLocals)) t := by
                    intro t kt
                    refine pre207 _ ?_
                    show Steps p.tables e below (T198.setTop (mkF m 291 #[iv p0, iv p1, iv p2, iv p3, iv p4, iv p5, iv ra, iv rb, iv ib, iv cb, iv ca0, iv ca1, iv cb0, iv cb1, iv (1 : Int32), iv (1 : Int32), rv x172, rv x174, rv b176, iv (((p5.toUInt32 >>> ((5 : Int32) &&& 31).toUInt32).toInt32) &&& (3 : Int32)), rv b194, iv sd, .unset] [(.int ib), (.int p1)])) _
                    refine XS.icmpYes X198.here hx rfl (pc0 := 291) (pc' := 303) rfl (hb hby at_291) rfl (feq hc291).2 (by decide) (by decide) ?_
                    show Steps p.tables e below (T198.setTop (mkF m 303 #[iv p0, iv p1, iv p2, iv p3, iv p4, iv p5, iv ra, iv rb, iv ib, iv cb, iv ca0, iv ca1, iv cb0, iv cb1, iv (1 : Int32), iv (1 : Int32), rv x172, rv x174, rv b176, iv (((p5.toUInt32 >>> ((5 : Int32) &&& 31).toUInt32).toInt32) &&& (3 : Int32)), rv b194, iv sd, .unset] [])) _
                    refine XS.iconst X198.here hx rfl (hb hby at_303) ?_
                    exact kt
                  exact ⟨(0 : Int32), Or.inr (Or.inr (Or.inl ⟨hc285, hc291, rfl⟩)), pre211⟩
              · have pre212 : ∀ t, Steps p.tables e below (T198.setTop (mkF m 304 #[iv p0, iv p1, iv p2, iv p3, iv p4, iv p5, iv ra, iv rb, iv ib, iv cb, iv ca0, iv ca1, iv cb0, iv cb1, iv (1 : Int32), iv (1 : Int32), rv x172, rv x174, rv b176, iv (((p5.toUInt32 >>> ((5 : Int32) &&& 31).toUInt32).toInt32) &&& (3 : Int32)), rv b194, iv sd, .unset] [(.int (0 : Int32))])) t → Steps p.tables e below (s₁.setTop (entryFrame m #[(.int p0), (.int p1), (.int p2), (.int p3), (.int p4), (.int p5)] maxLocals)) t := by
                  intro t kt
                  refine pre206 _ ?_
                  show Steps p.tables e below (T198.setTop (mkF m 285 #[iv p0, iv p1, iv p2, iv p3, iv p4, iv p5, iv ra, iv rb, iv ib, iv cb, iv ca0, iv ca1, iv cb0, iv cb1, iv (1 : Int32), iv (1 : Int32), rv x172, rv x174, rv b176, iv (((p5.toUInt32 >>> ((5 : Int32) &&& 31).toUInt32).toInt32) &&& (3 : Int32)), rv b194, iv sd, .unset] [(.int rb), (.int ra)])) _
                  refine XS.icmpYes X198.here hx rfl (pc0 := 285) (pc' := 303) rfl (hb hby at_285) rfl (feq hc285).2 (by decide) (by decide) ?_
                  show Steps p.tables e below (T198.setTop (mkF m 303 #[iv p0, iv p1, iv p2, iv p3, iv p4, iv p5, iv ra, iv rb, iv ib, iv cb, iv ca0, iv ca1, iv cb0, iv cb1, iv (1 : Int32), iv (1 : Int32), rv x172, rv x174, rv b176, iv (((p5.toUInt32 >>> ((5 : Int32) &&& 31).toUInt32).toInt32) &&& (3 : Int32)), rv b194, iv sd, .unset] [])) _
                  refine XS.iconst X198.here hx rfl (hb hby at_303) ?_
                  exact kt
                exact ⟨(0 : Int32), Or.inr (Or.inr (Or.inr (⟨hc285, rfl⟩))), pre212⟩
            have pre215 : ∀ t, Steps p.tables e below (T198.setTop (mkF m 310 #[iv p0, iv p1, iv p2, iv p3, iv p4, iv p5, iv ra, iv rb, iv ib, iv cb, iv ca0, iv ca1, iv cb0, iv cb1, iv (1 : Int32), iv (1 : Int32), rv x172, rv x174, rv b176, iv (((p5.toUInt32 >>> ((5 : Int32) &&& 31).toUInt32).toInt32) &&& (3 : Int32)), rv b194, iv sd, iv ex] [(.ref b194), (.ref b176)])) t → Steps p.tables e below (s₁.setTop (entryFrame m #[(.int p0), (.int p1), (.int p2), (.int p3), (.int p4), (.int p5)] maxLocals)) t := by
              intro t kt
              refine pre214 _ ?_
              show Steps p.tables e below (T198.setTop (mkF m 304 #[iv p0, iv p1, iv p2, iv p3, iv p4, iv p5, iv ra, iv rb, iv ib, iv cb, iv ca0, iv ca1, iv cb0, iv cb1, iv (1 : Int32), iv (1 : Int32), rv x172, rv x174, rv b176, iv (((p5.toUInt32 >>> ((5 : Int32) &&& 31).toUInt32).toInt32) &&& (3 : Int32)), rv b194, iv sd, .unset] [(.int ex)])) _
              refine XS.istore X198.here hx rfl (hb hby at_304) rfl (l' := #[iv p0, iv p1, iv p2, iv p3, iv p4, iv p5, iv ra, iv rb, iv ib, iv cb, iv ca0, iv ca1, iv cb0, iv cb1, iv (1 : Int32), iv (1 : Int32), rv x172, rv x174, rv b176, iv (((p5.toUInt32 >>> ((5 : Int32) &&& 31).toUInt32).toInt32) &&& (3 : Int32)), rv b194, iv sd, iv ex]) rfl ?_
              show Steps p.tables e below (T198.setTop (mkF m 306 #[iv p0, iv p1, iv p2, iv p3, iv p4, iv p5, iv ra, iv rb, iv ib, iv cb, iv ca0, iv ca1, iv cb0, iv cb1, iv (1 : Int32), iv (1 : Int32), rv x172, rv x174, rv b176, iv (((p5.toUInt32 >>> ((5 : Int32) &&& 31).toUInt32).toInt32) &&& (3 : Int32)), rv b194, iv sd, iv ex] [])) _
              refine XS.aload X198.here hx rfl (hb hby at_306) rfl rfl ?_
              show Steps p.tables e below (T198.setTop (mkF m 308 #[iv p0, iv p1, iv p2, iv p3, iv p4, iv p5, iv ra, iv rb, iv ib, iv cb, iv ca0, iv ca1, iv cb0, iv cb1, iv (1 : Int32), iv (1 : Int32), rv x172, rv x174, rv b176, iv (((p5.toUInt32 >>> ((5 : Int32) &&& 31).toUInt32).toInt32) &&& (3 : Int32)), rv b194, iv sd, iv ex] [(.ref b176)])) _
              refine XS.aload X198.here hx rfl (hb hby at_308) rfl rfl ?_
              exact kt
            obtain ⟨cq216, kq216, q216a, q216b, q216c⟩ := isOf hZ rfl (((A176.keep Kc180).ext E194).keep Kc198)
            obtain ⟨_, _, ⟨T216, L216, k216, n216⟩, -, X216, ⟨Lc216, hQ216, l216, y216, z216⟩, st216⟩ := X198.virtualBack hx (y := (⟨"com/example/fair_witness/fairwitness/verifier/DecodingFailure", "equals", "(Ljava/lang/Object;)Z"⟩ : MethodName)) (z := (⟨"com/example/fair_witness/fairwitness/verifier/DecodingFailure", "equals", "(Ljava/lang/Object;)Z"⟩ : MethodName)) hown (mvT hZ (hw _ (List.mem_of_getElem? (i := 53) rfl))) (mvT hZ (hw _ (List.mem_of_getElem? (i := 54) rfl))) (notFace_of_selects (args := #[]) (mvT hZ (hw _ (List.mem_of_getElem? (i := 56) rfl)))) (mvT hZ (hw _ (List.mem_of_getElem? (i := 56) rfl))) (mvT hZ (hw _ (List.mem_of_getElem? (i := 55) rfl))) (by decide) (backOf (W := 0) (rm10v11 l Z a0 hw [] b176 b194 (own_rs aK aP aS aR ra) p1 x172 (own_rs aK aP aS aR rb) ib x174 y172 y174 ky172 ky174 (ca0.toInt8.toInt32) (cb0.toInt8.toInt32) cs T198.heap n0 (Nat.le_trans Z0 K198.1) (O0.keep K198 all0) S_cs hcs ((F0_180.ext E194).keep Kc198 (ninS (Nat.ne_of_lt (Nat.lt_of_lt_of_le (A176.keep Kc180).lt (Nat.le_of_eq g194.symm))) nin0)) ((F1_180.ext E194).keep Kc198 (ninS (Nat.ne_of_lt (Nat.lt_of_lt_of_le (A176.keep Kc180).lt (Nat.le_of_eq g194.symm))) nin0)) ((F2_180.ext E194).keep Kc198 (ninS (Nat.ne_of_lt (Nat.lt_of_lt_of_le (A176.keep Kc180).lt (Nat.le_of_eq g194.symm))) nin0)) (((A176.keep Kc180).ext E194).keep Kc198) F0_198 F1_198 F2_198 (A194.keep Kc198) (((((Fv172.keep Kc174 nin0).ext E176).keep Kc180 (ninS (Nat.ne_of_lt (Nat.lt_of_lt_of_le (Ex172.keep Kc174).lt (Nat.le_of_eq g176.symm))) nin0)).ext E194).keep Kc198 (ninS (Nat.ne_of_lt (Nat.lt_of_lt_of_le (((Ex172.keep Kc174).ext E176).keep Kc180).lt (Nat.le_of_eq g194.symm))) nin0)) (((((Fc172.keep Kc174 nin0).ext E176).keep Kc180 (ninS (Nat.ne_of_lt (Nat.lt_of_lt_of_le (Ex172.keep Kc174).lt (Nat.le_of_eq g176.symm))) nin0)).ext E194).keep Kc198 (ninS (Nat.ne_of_lt (Nat.lt_of_lt_of_le (((Ex172.keep Kc174).ext E176).keep Kc180).lt (Nat.le_of_eq g194.symm))) nin0)) (((((Ex172.keep Kc174).ext E176).keep Kc180).ext E194).keep Kc198) (((((Vy172.keep Kc174 nin0).ext E176).keep Kc180 (ninS (Nat.ne_of_lt (Nat.lt_of_lt_of_le (Vy172.keep Kc174 nin0).lt (Nat.le_of_eq g176.symm))) nin0)).ext E194).keep Kc198 (ninS (Nat.ne_of_lt (Nat.lt_of_lt_of_le (((Vy172.keep Kc174 nin0).ext E176).keep Kc180 (ninS (Nat.ne_of_lt (Nat.lt_of_lt_of_le (Vy172.keep Kc174 nin0).lt (Nat.le_of_eq g176.symm))) nin0)).lt (Nat.le_of_eq g194.symm))) nin0)) ((((Fv174.ext E176).keep Kc180 (ninS (Nat.ne_of_lt (Nat.lt_of_lt_of_le Ex174.lt (Nat.le_of_eq g176.symm))) nin0)).ext E194).keep Kc198 (ninS (Nat.ne_of_lt (Nat.lt_of_lt_of_le ((Ex174.ext E176).keep Kc180).lt (Nat.le_of_eq g194.symm))) nin0)) ((((Fc174.ext E176).keep Kc180 (ninS (Nat.ne_of_lt (Nat.lt_of_lt_of_le Ex174.lt (Nat.le_of_eq g176.symm))) nin0)).ext E194).keep Kc198 (ninS (Nat.ne_of_lt (Nat.lt_of_lt_of_le ((Ex174.ext E176).keep Kc180).lt (Nat.le_of_eq g194.symm))) nin0)) ((((Ex174.ext E176).keep Kc180).ext E194).keep Kc198) ((((Vy174.ext E176).keep Kc180 (ninS (Nat.ne_of_lt (Nat.lt_of_lt_of_le Vy174.lt (Nat.le_of_eq g176.symm))) nin0)).ext E194).keep Kc198 (ninS (Nat.ne_of_lt (Nat.lt_of_lt_of_le ((Vy174.ext E176).keep Kc180 (ninS (Nat.ne_of_lt (Nat.lt_of_lt_of_le Vy174.lt (Nat.le_of_eq g176.symm))) nin0)).lt (Nat.le_of_eq g194.symm))) nin0)) ne_x172_x174) hZ (hw _ (List.mem_of_getElem? (i := 57) rfl)) (hw _ (List.mem_of_getElem? (i := 36) rfl)) (by decide) (by decide)) q216a q216c (g := (mkF m 310 #[iv p0, iv p1, iv p2, iv p3, iv p4, iv p5, iv ra, iv rb, iv ib, iv cb, iv ca0, iv ca1, iv cb0, iv cb1, iv (1 : Int32), iv (1 : Int32), rv x172, rv x174, rv b176, iv (((p5.toUInt32 >>> ((5 : Int32) &&& 31).toUInt32).toInt32) &&& (3 : Int32)), rv b194, iv sd, iv ex] [(.ref b194), (.ref b176)])) rfl (by rw [hml]; rfl) (Steps.refl _) (argsL := [(.ref b194)]) (rest := []) (lenOf pd15 rfl) rfl (by show 2 * 0 + _ ≤ _; exact Nat.le_of_eq rfl) (hb hby at_310) (fun _ _ => ⟨rfl, rfl, (by decide : 6 + 0 ≤ _), (by decide : 16 + 0 ≤ _)⟩)
            dsimp only [Pt.U, Pt.locs, Pt.cells, Pt.slots] at X216 l216 y216 z216 st216 hQ216
            subst l216 y216 z216
            obtain ⟨rfl, N216q, hh216⟩ := hQ216
            have N216 := Fr.app N198 N216q
            have pre217 : ∀ t, Steps p.tables e below (T216.setTop (mkF m 315 #[iv p0, iv p1, iv p2, iv p3, iv p4, iv p5, iv ra, iv rb, iv ib, iv cb, iv ca0, iv ca1, iv cb0, iv cb1, iv (1 : Int32), iv (1 : Int32), rv x172, rv x174, rv b176, iv (((p5.toUInt32 >>> ((5 : Int32) &&& 31).toUInt32).toInt32) &&& (3 : Int32)), rv b194, iv sd, iv ex] [(.int ex), (.int (own_de11 (own_rs aK aP aS aR ra) p1 (own_rs aK aP aS aR rb) ib (ca0.toInt8.toInt32) (cb0.toInt8.toInt32)))])) t → Steps p.tables e below (s₁.setTop (entryFrame m #[(.int p0), (.int p1), (.int p2), (.int p3), (.int p4), (.int p5)] maxLocals)) t := by
              intro t kt
              refine pre215 _ ?_
              show Steps p.tables e below (T198.setTop (mkF m 310 #[iv p0, iv p1, iv p2, iv p3, iv p4, iv p5, iv ra, iv rb, iv ib, iv cb, iv ca0, iv ca1, iv cb0, iv cb1, iv (1 : Int32), iv (1 : Int32), rv x172, rv x174, rv b176, iv (((p5.toUInt32 >>> ((5 : Int32) &&& 31).toUInt32).toInt32) &&& (3 : Int32)), rv b194, iv sd, iv ex] [(.ref b194), (.ref b176)])) _
              refine st216.trans ?_
              show Steps p.tables e below (T216.setTop (mkF m 313 #[iv p0, iv p1, iv p2, iv p3, iv p4, iv p5, iv ra, iv rb, iv ib, iv cb, iv ca0, iv ca1, iv cb0, iv cb1, iv (1 : Int32), iv (1 : Int32), rv x172, rv x174, rv b176, iv (((p5.toUInt32 >>> ((5 : Int32) &&& 31).toUInt32).toInt32) &&& (3 : Int32)), rv b194, iv sd, iv ex] [(.int (own_de11 (own_rs aK aP aS aR ra) p1 (own_rs aK aP aS aR rb) ib (ca0.toInt8.toInt32) (cb0.toInt8.toInt32)))])) _
              refine XS.iload X216.here hx rfl (hb hby at_313) rfl ?_
              exact kt
            by_cases hc315 : (own_de11 (own_rs aK aP aS aR ra) p1 (own_rs aK aP aS aR rb) ib (ca0.toInt8.toInt32) (cb0.toInt8.toInt32)) = ex
            · have pre218 : ∀ t, Steps p.tables e below (T216.setTop (mkF m 322 #[iv p0, iv p1, iv p2, iv p3, iv p4, iv p5, iv ra, iv rb, iv ib, iv cb, iv ca0, iv ca1, iv cb0, iv cb1, iv (1 : Int32), iv (1 : Int32), rv x172, rv x174, rv b176, iv (((p5.toUInt32 >>> ((5 : Int32) &&& 31).toUInt32).toInt32) &&& (3 : Int32)), rv b194, iv sd, iv ex] [(.ref b176), (.ref b194)])) t → Steps p.tables e below (s₁.setTop (entryFrame m #[(.int p0), (.int p1), (.int p2), (.int p3), (.int p4), (.int p5)] maxLocals)) t := by
                intro t kt
                refine pre217 _ ?_
                show Steps p.tables e below (T216.setTop (mkF m 315 #[iv p0, iv p1, iv p2, iv p3, iv p4, iv p5, iv ra, iv rb, iv ib, iv cb, iv ca0, iv ca1, iv cb0, iv cb1, iv (1 : Int32), iv (1 : Int32), rv x172, rv x174, rv b176, iv (((p5.toUInt32 >>> ((5 : Int32) &&& 31).toUInt32).toInt32) &&& (3 : Int32)), rv b194, iv sd, iv ex] [(.int ex), (.int (own_de11 (own_rs aK aP aS aR ra) p1 (own_rs aK aP aS aR rb) ib (ca0.toInt8.toInt32) (cb0.toInt8.toInt32)))])) _
                refine XS.icmpNo X216.here hx rfl (hb hby at_315) rfl (teq hc315).2 ?_
                show Steps p.tables e below (T216.setTop (mkF m 318 #[iv p0, iv p1, iv p2, iv p3, iv p4, iv p5, iv ra, iv rb, iv ib, iv cb, iv ca0, iv ca1, iv cb0, iv cb1, iv (1 : Int32), iv (1 : Int32), rv x172, rv x174, rv b176, iv (((p5.toUInt32 >>> ((5 : Int32) &&& 31).toUInt32).toInt32) &&& (3 : Int32)), rv b194, iv sd, iv ex] [])) _
                refine XS.aload X216.here hx rfl (hb hby at_318) rfl rfl ?_
                show Steps p.tables e below (T216.setTop (mkF m 320 #[iv p0, iv p1, iv p2, iv p3, iv p4, iv p5, iv ra, iv rb, iv ib, iv cb, iv ca0, iv ca1, iv cb0, iv cb1, iv (1 : Int32), iv (1 : Int32), rv x172, rv x174, rv b176, iv (((p5.toUInt32 >>> ((5 : Int32) &&& 31).toUInt32).toInt32) &&& (3 : Int32)), rv b194, iv sd, iv ex] [(.ref b194)])) _
                refine XS.aload X216.here hx rfl (hb hby at_320) rfl rfl ?_
                exact kt
              obtain ⟨cq219, kq219, q219a, q219b, q219c⟩ := isOf hZ hh216 (A194.keep Kc198)
              obtain ⟨_, _, ⟨T219, L219, k219, n219⟩, -, X219, ⟨Lc219, hQ219, l219, y219, z219⟩, st219⟩ := X216.virtualBack hx (y := (⟨"com/example/fair_witness/fairwitness/verifier/DecodingFailure", "equals", "(Ljava/lang/Object;)Z"⟩ : MethodName)) (z := (⟨"com/example/fair_witness/fairwitness/verifier/DecodingFailure", "equals", "(Ljava/lang/Object;)Z"⟩ : MethodName)) hown (mvT hZ (hw _ (List.mem_of_getElem? (i := 53) rfl))) (mvT hZ (hw _ (List.mem_of_getElem? (i := 54) rfl))) (notFace_of_selects (args := #[]) (mvT hZ (hw _ (List.mem_of_getElem? (i := 56) rfl)))) (mvT hZ (hw _ (List.mem_of_getElem? (i := 56) rfl))) (mvT hZ (hw _ (List.mem_of_getElem? (i := 55) rfl))) (by decide) (backOf (W := 0) (rm10v11 l Z a0 hw [] b194 b176 (own_rs aK aP aS aR rb) ib x174 (own_rs aK aP aS aR ra) p1 x172 y174 y172 ky174 ky172 (cb0.toInt8.toInt32) (ca0.toInt8.toInt32) cs T198.heap n0 (Nat.le_trans Z0 K198.1) (O0.keep K198 all0) S_cs hcs F0_198 F1_198 F2_198 (A194.keep Kc198) ((F0_180.ext E194).keep Kc198 (ninS (Nat.ne_of_lt (Nat.lt_of_lt_of_le (A176.keep Kc180).lt (Nat.le_of_eq g194.symm))) nin0)) ((F1_180.ext E194).keep Kc198 (ninS (Nat.ne_of_lt (Nat.lt_of_lt_of_le (A176.keep Kc180).lt (Nat.le_of_eq g194.symm))) nin0)) ((F2_180.ext E194).keep Kc198 (ninS (Nat.ne_of_lt (Nat.lt_of_lt_of_le (A176.keep Kc180).lt (Nat.le_of_eq g194.symm))) nin0)) (((A176.keep Kc180).ext E194).keep Kc198) ((((Fv174.ext E176).keep Kc180 (ninS (Nat.ne_of_lt (Nat.lt_of_lt_of_le Ex174.lt (Nat.le_of_eq g176.symm))) nin0)).ext E194).keep Kc198 (ninS (Nat.ne_of_lt (Nat.lt_of_lt_of_le ((Ex174.ext E176).keep Kc180).lt (Nat.le_of_eq g194.symm))) nin0)) ((((Fc174.ext E176).keep Kc180 (ninS (Nat.ne_of_lt (Nat.lt_of_lt_of_le Ex174.lt (Nat.le_of_eq g176.symm))) nin0)).ext E194).keep Kc198 (ninS (Nat.ne_of_lt (Nat.lt_of_lt_of_le ((Ex174.ext E176).keep Kc180).lt (Nat.le_of_eq g194.symm))) nin0)) ((((Ex174.ext E176).keep Kc180).ext E194).keep Kc198) ((((Vy174.ext E176).keep Kc180 (ninS (Nat.ne_of_lt (Nat.lt_of_lt_of_le Vy174.lt (Nat.le_of_eq g176.symm))) nin0)).ext E194).keep Kc198 (ninS (Nat.ne_of_lt (Nat.lt_of_lt_of_le ((Vy174.ext E176).keep Kc180 (ninS (Nat.ne_of_lt (Nat.lt_of_lt_of_le Vy174.lt (Nat.le_of_eq g176.symm))) nin0)).lt (Nat.le_of_eq g194.symm))) nin0)) (((((Fv172.keep Kc174 nin0).ext E176).keep Kc180 (ninS (Nat.ne_of_lt (Nat.lt_of_lt_of_le (Ex172.keep Kc174).lt (Nat.le_of_eq g176.symm))) nin0)).ext E194).keep Kc198 (ninS (Nat.ne_of_lt (Nat.lt_of_lt_of_le (((Ex172.keep Kc174).ext E176).keep Kc180).lt (Nat.le_of_eq g194.symm))) nin0)) (((((Fc172.keep Kc174 nin0).ext E176).keep Kc180 (ninS (Nat.ne_of_lt (Nat.lt_of_lt_of_le (Ex172.keep Kc174).lt (Nat.le_of_eq g176.symm))) nin0)).ext E194).keep Kc198 (ninS (Nat.ne_of_lt (Nat.lt_of_lt_of_le (((Ex172.keep Kc174).ext E176).keep Kc180).lt (Nat.le_of_eq g194.symm))) nin0)) (((((Ex172.keep Kc174).ext E176).keep Kc180).ext E194).keep Kc198) (((((Vy172.keep Kc174 nin0).ext E176).keep Kc180 (ninS (Nat.ne_of_lt (Nat.lt_of_lt_of_le (Vy172.keep Kc174 nin0).lt (Nat.le_of_eq g176.symm))) nin0)).ext E194).keep Kc198 (ninS (Nat.ne_of_lt (Nat.lt_of_lt_of_le (((Vy172.keep Kc174 nin0).ext E176).keep Kc180 (ninS (Nat.ne_of_lt (Nat.lt_of_lt_of_le (Vy172.keep Kc174 nin0).lt (Nat.le_of_eq g176.symm))) nin0)).lt (Nat.le_of_eq g194.symm))) nin0)) (Ne.symm ne_x172_x174)) hZ (hw _ (List.mem_of_getElem? (i := 57) rfl)) (hw _ (List.mem_of_getElem? (i := 36) rfl)) (by decide) (by decide)) q219a q219c (g := (mkF m 322 #[iv p0, iv p1, iv p2, iv p3, iv p4, iv p5, iv ra, iv rb, iv ib, iv cb, iv ca0, iv ca1, iv cb0, iv cb1, iv (1 : Int32), iv (1 : Int32), rv x172, rv x174, rv b176, iv (((p5.toUInt32 >>> ((5 : Int32) &&& 31).toUInt32).toInt32) &&& (3 : Int32)), rv b194, iv sd, iv ex] [(.ref b176), (.ref b194)])) rfl (by rw [hml]; rfl) (Steps.refl _) (argsL := [(.ref b176)]) (rest := []) (lenOf pd15 rfl) rfl (by show 2 * 0 + _ ≤ _; exact Nat.le_of_eq rfl) (hb hby at_322) (fun _ _ => ⟨rfl, hh216, (by decide : 6 + 0 ≤ _), (by decide : 16 + 0 ≤ _)⟩)
              dsimp only [Pt.U, Pt.locs, Pt.cells, Pt.slots] at X219 l219 y219 z219 st219 hQ219
              subst l219 y219 z219
              obtain ⟨rfl, N219q, hh219⟩ := hQ219
              have N219 := Fr.app N216 N219q
              have pre220 : ∀ t, Steps p.tables e below (T219.setTop (mkF m 327 #[iv p0, iv p1, iv p2, iv p3, iv p4, iv p5, iv ra, iv rb, iv ib, iv cb, iv ca0, iv ca1, iv cb0, iv cb1, iv (1 : Int32), iv (1 : Int32), rv x172, rv x174, rv b176, iv (((p5.toUInt32 >>> ((5 : Int32) &&& 31).toUInt32).toInt32) &&& (3 : Int32)), rv b194, iv sd, iv ex] [(.int ex), (.int (own_de11 (own_rs aK aP aS aR rb) ib (own_rs aK aP aS aR ra) p1 (cb0.toInt8.toInt32) (ca0.toInt8.toInt32)))])) t → Steps p.tables e below (s₁.setTop (entryFrame m #[(.int p0), (.int p1), (.int p2), (.int p3), (.int p4), (.int p5)] maxLocals)) t := by
                intro t kt
                refine pre218 _ ?_
                show Steps p.tables e below (T216.setTop (mkF m 322 #[iv p0, iv p1, iv p2, iv p3, iv p4, iv p5, iv ra, iv rb, iv ib, iv cb, iv ca0, iv ca1, iv cb0, iv cb1, iv (1 : Int32), iv (1 : Int32), rv x172, rv x174, rv b176, iv (((p5.toUInt32 >>> ((5 : Int32) &&& 31).toUInt32).toInt32) &&& (3 : Int32)), rv b194, iv sd, iv ex] [(.ref b176), (.ref b194)])) _
                refine st219.trans ?_
                show Steps p.tables e below (T219.setTop (mkF m 325 #[iv p0, iv p1, iv p2, iv p3, iv p4, iv p5, iv ra, iv rb, iv ib, iv cb, iv ca0, iv ca1, iv cb0, iv cb1, iv (1 : Int32), iv (1 : Int32), rv x172, rv x174, rv b176, iv (((p5.toUInt32 >>> ((5 : Int32) &&& 31).toUInt32).toInt32) &&& (3 : Int32)), rv b194, iv sd, iv ex] [(.int (own_de11 (own_rs aK aP aS aR rb) ib (own_rs aK aP aS aR ra) p1 (cb0.toInt8.toInt32) (ca0.toInt8.toInt32)))])) _
                refine XS.iload X219.here hx rfl (hb hby at_325) rfl ?_
                exact kt
              by_cases hc327 : (own_de11 (own_rs aK aP aS aR rb) ib (own_rs aK aP aS aR ra) p1 (cb0.toInt8.toInt32) (ca0.toInt8.toInt32)) = ex
              · have pre221 : ∀ t, Steps p.tables e below (T219.setTop (mkF m 335 #[iv p0, iv p1, iv p2, iv p3, iv p4, iv p5, iv ra, iv rb, iv ib, iv cb, iv ca0, iv ca1, iv cb0, iv cb1, iv (1 : Int32), iv (1 : Int32), rv x172, rv x174, rv b176, iv (((p5.toUInt32 >>> ((5 : Int32) &&& 31).toUInt32).toInt32) &&& (3 : Int32)), rv b194, iv sd, iv ex] [(.int (1 : Int32))])) t → Steps p.tables e below (s₁.setTop (entryFrame m #[(.int p0), (.int p1), (.int p2), (.int p3), (.int p4), (.int p5)] maxLocals)) t := by
                  intro t kt
                  refine pre220 _ ?_
                  show Steps p.tables e below (T219.setTop (mkF m 327 #[iv p0, iv p1, iv p2, iv p3, iv p4, iv p5, iv ra, iv rb, iv ib, iv cb, iv ca0, iv ca1, iv cb0, iv cb1, iv (1 : Int32), iv (1 : Int32), rv x172, rv x174, rv b176, iv (((p5.toUInt32 >>> ((5 : Int32) &&& 31).toUInt32).toInt32) &&& (3 : Int32)), rv b194, iv sd, iv ex] [(.int ex), (.int (own_de11 (own_rs aK aP aS aR rb) ib (own_rs aK aP aS aR ra) p1 (cb0.toInt8.toInt32) (ca0.toInt8.toInt32)))])) _
                  refine XS.icmpNo X219.here hx rfl (hb hby at_327) rfl (teq hc327).2 ?_
                  show Steps p.tables e below (T219.setTop (mkF m 330 #[iv p0, iv p1, iv p2, iv p3, iv p4, iv p5, iv ra, iv rb, iv ib, iv cb, iv ca0, iv ca1, iv cb0, iv cb1, iv (1 : Int32), iv (1 : Int32), rv x172, rv x174, rv b176, iv (((p5.toUInt32 >>> ((5 : Int32) &&& 31).toUInt32).toInt32) &&& (3 : Int32)), rv b194, iv sd, iv ex] [])) _
                  refine XS.iconst X219.here hx rfl (hb hby at_330) ?_
                  show Steps p.tables e below (T219.setTop (mkF m 331 #[iv p0, iv p1, iv p2, iv p3, iv p4, iv p5, iv ra, iv rb, iv ib, iv cb, iv ca0, iv ca1, iv cb0, iv cb1, iv (1 : Int32), iv (1 : Int32), rv x172, rv x174, rv b176, iv (((p5.toUInt32 >>> ((5 : Int32) &&& 31).toUInt32).toInt32) &&& (3 : Int32)), rv b194, iv sd, iv ex] [(.int (1 : Int32))])) _
                  refine XS.goto X219.here hx rfl (pc0 := 331) (pc' := 335) rfl (hb hby at_331) (by decide) (by decide) ?_
                  exact kt
                obtain ⟨fs, hr, hrun, hended, hW, hsame⟩ := X219.leave (v := some (.int (1 : Int32))) (fun h => by rw [Bd.returns] at h; cases h)
                refine ⟨_, _, pre221 _ ?_, hrun, hended, _, _, rfl, ?_, ⟨_, rfl⟩, hW, hsame.mono (by decide) (by decide)⟩
                · show Steps p.tables e below (T219.setTop (mkF m 335 #[iv p0, iv p1, iv p2, iv p3, iv p4, iv p5, iv ra, iv rb, iv ib, iv cb, iv ca0, iv ca1, iv cb0, iv cb1, iv (1 : Int32), iv (1 : Int32), rv x172, rv x174, rv b176, iv (((p5.toUInt32 >>> ((5 : Int32) &&& 31).toUInt32).toInt32) &&& (3 : Int32)), rv b194, iv sd, iv ex] [(.int (1 : Int32))])) _
                  exact retN X219 hx (t := .boolean) Bd.returns (by simp) (hb hby at_335) hr
                · show Q0 Z p0 p1 p2 p3 p4 p5 aK aP aS aR cs h0 n0 _ T219.heap _
                  rw [hh219]
                  exact ⟨rfl, N219⟩
              · have pre222 : ∀ t, Steps p.tables e below (T219.setTop (mkF m 335 #[iv p0, iv p1, iv p2, iv p3, iv p4, iv p5, iv ra, iv rb, iv ib, iv cb, iv ca0, iv ca1, iv cb0, iv cb1, iv (1 : Int32), iv (1 : Int32), rv x172, rv x174, rv b176, iv (((p5.toUInt32 >>> ((5 : Int32) &&& 31).toUInt32).toInt32) &&& (3 : Int32)), rv b194, iv sd, iv ex] [(.int (0 : Int32))])) t → Steps p.tables e below (s₁.setTop (entryFrame m #[(.int p0), (.int p1), (.int p2), (.int p3), (.int p4), (.int p5)] maxLocals)) t := by
                  intro t kt
                  refine pre220 _ ?_
                  show Steps p.tables e below (T219.setTop (mkF m 327 #[iv p0, iv p1, iv p2, iv p3, iv p4, iv p5, iv ra, iv rb, iv ib, iv cb, iv ca0, iv ca1, iv cb0, iv cb1, iv (1 : Int32), iv (1 : Int32), rv x172, rv x174, rv b176, iv (((p5.toUInt32 >>> ((5 : Int32) &&& 31).toUInt32).toInt32) &&& (3 : Int32)), rv b194, iv sd, iv ex] [(.int ex), (.int (own_de11 (own_rs aK aP aS aR rb) ib (own_rs aK aP aS aR ra) p1 (cb0.toInt8.toInt32) (ca0.toInt8.toInt32)))])) _
                  refine XS.icmpYes X219.here hx rfl (pc0 := 327) (pc' := 334) rfl (hb hby at_327) rfl (feq hc327).2 (by decide) (by decide) ?_
                  show Steps p.tables e below (T219.setTop (mkF m 334 #[iv p0, iv p1, iv p2, iv p3, iv p4, iv p5, iv ra, iv rb, iv ib, iv cb, iv ca0, iv ca1, iv cb0, iv cb1, iv (1 : Int32), iv (1 : Int32), rv x172, rv x174, rv b176, iv (((p5.toUInt32 >>> ((5 : Int32) &&& 31).toUInt32).toInt32) &&& (3 : Int32)), rv b194, iv sd, iv ex] [])) _
                  refine XS.iconst X219.here hx rfl (hb hby at_334) ?_
                  exact kt
                exfalso
                exact hc327 (own_fin11 aK aP aS aR ra rb p1 ib ca0 ca1 cb0 cb1 sd ex (own_rinj aK aP aS aR hne01 hne02 hne03 hne12 hne13 hne23 ra rb (h_ra ▸ own_and3 _) (by rcases hrb with ⟨_, q⟩ | ⟨_, q⟩ <;> rw [q] <;> first | exact (h_ra ▸ own_and3 _) | exact own_and3 _)) (own_binj ca0 cb0 (h_ca0 ▸ own_ch _).2.2 (h_cb0 ▸ own_ch _).2.2) (own_binj ca1 cb1 (h_ca1 ▸ own_ch _).2.2 (h_cb1 ▸ own_ch _).2.2) hsd hex).2
            · have pre223 : ∀ t, Steps p.tables e below (T216.setTop (mkF m 335 #[iv p0, iv p1, iv p2, iv p3, iv p4, iv p5, iv ra, iv rb, iv ib, iv cb, iv ca0, iv ca1, iv cb0, iv cb1, iv (1 : Int32), iv (1 : Int32), rv x172, rv x174, rv b176, iv (((p5.toUInt32 >>> ((5 : Int32) &&& 31).toUInt32).toInt32) &&& (3 : Int32)), rv b194, iv sd, iv ex] [(.int (0 : Int32))])) t → Steps p.tables e below (s₁.setTop (entryFrame m #[(.int p0), (.int p1), (.int p2), (.int p3), (.int p4), (.int p5)] maxLocals)) t := by
                intro t kt
                refine pre217 _ ?_
                show Steps p.tables e below (T216.setTop (mkF m 315 #[iv p0, iv p1, iv p2, iv p3, iv p4, iv p5, iv ra, iv rb, iv ib, iv cb, iv ca0, iv ca1, iv cb0, iv cb1, iv (1 : Int32), iv (1 : Int32), rv x172, rv x174, rv b176, iv (((p5.toUInt32 >>> ((5 : Int32) &&& 31).toUInt32).toInt32) &&& (3 : Int32)), rv b194, iv sd, iv ex] [(.int ex), (.int (own_de11 (own_rs aK aP aS aR ra) p1 (own_rs aK aP aS aR rb) ib (ca0.toInt8.toInt32) (cb0.toInt8.toInt32)))])) _
                refine XS.icmpYes X216.here hx rfl (pc0 := 315) (pc' := 334) rfl (hb hby at_315) rfl (feq hc315).2 (by decide) (by decide) ?_
                show Steps p.tables e below (T216.setTop (mkF m 334 #[iv p0, iv p1, iv p2, iv p3, iv p4, iv p5, iv ra, iv rb, iv ib, iv cb, iv ca0, iv ca1, iv cb0, iv cb1, iv (1 : Int32), iv (1 : Int32), rv x172, rv x174, rv b176, iv (((p5.toUInt32 >>> ((5 : Int32) &&& 31).toUInt32).toInt32) &&& (3 : Int32)), rv b194, iv sd, iv ex] [])) _
                refine XS.iconst X216.here hx rfl (hb hby at_334) ?_
                exact kt
              exfalso
              exact hc315 (own_fin11 aK aP aS aR ra rb p1 ib ca0 ca1 cb0 cb1 sd ex (own_rinj aK aP aS aR hne01 hne02 hne03 hne12 hne13 hne23 ra rb (h_ra ▸ own_and3 _) (by rcases hrb with ⟨_, q⟩ | ⟨_, q⟩ <;> rw [q] <;> first | exact (h_ra ▸ own_and3 _) | exact own_and3 _)) (own_binj ca0 cb0 (h_ca0 ▸ own_ch _).2.2 (h_cb0 ▸ own_ch _).2.2) (own_binj ca1 cb1 (h_ca1 ▸ own_ch _).2.2 (h_cb1 ▸ own_ch _).2.2) hsd hex).1
set_option maxRecDepth 65536 in
set_option maxHeartbeats 40000000 in
theorem comes_1 {Post : Tables → Env → Array Value → State → Outcome → State → Prop} (hpost : ∀ tb e args s v u, (limb_1_1.after args s (.returned v) u = true ∧ limb_1_2.after args s (.returned v) u = true ∧ True) → FrameEnd s (.returned v) u (Jvm.fieldLocs frame_1_writes args s ++ Jvm.arrayLocs frame_1_arrays args s ++ Jvm.staticLocs frame_1_statics s) 24 128 → Post tb e args s (.returned v) u) :
    ArmFor flags0 classFile x code maxLocals ret World_1 tables_1 room_1 Calls_1 rest_1 Pre_1 Post := by
  intro l hfl _ _ p e ha hc hk s m args below hf hA hF happ hP
  obtain ⟨hcalls, hrest, hpre⟩ := hP
  obtain ⟨-, -, -, hnamed, -, -, -, hat⟩ := (Spec.applies_iff hf).mp happ
  obtain ⟨hg, hn⟩ := and_e (Cond.before_iff.mp (show (Jvm.Cond.and given_1 narrow_1).before args s = true from hpre))
  obtain ⟨gg1, gg2⟩ := and_e hg
  obtain ⟨gg3, gg4⟩ := and_e gg2
  obtain ⟨gg5, gg6⟩ := and_e gg4
  obtain ⟨gg7, gg8⟩ := and_e gg6
  obtain ⟨gg9, gg10⟩ := and_e gg8
  obtain ⟨gg11, gg12⟩ := and_e gg10
  obtain ⟨w0, w1, w2, w3, w4, w5, rfl⟩ : ∃ w0 w1 w2 w3 w4 w5 : Value, args = #[w0, w1, w2, w3, w4, w5] := by
    have hs : args.size = 6 := by simpa [Cond.value, given_1] using gg1
    obtain ⟨L⟩ := args
    match L, hs with
    | [w0, w1, w2, w3, w4, w5], _ => exact ⟨w0, w1, w2, w3, w4, w5, rfl⟩
  have hw := fun d (hd : d ∈ tables_1) => atoms_spec (ws := Jvm.Cond.code x code maxLocals ret :: tables_1) hat d (List.mem_cons_of_mem _ hd)
  have hfit : Fit s := fun {y c} hc i hi => by
    obtain ⟨ha, rfl⟩ := Array.getElem?_eq_some_iff.mp hc
    have q := List.all_eq_true.mp ((Array.all_eq_true_iff_forall_mem.mp hF) _ (Array.getElem_mem ha)) i (List.mem_range.mpr hi)
    simpa [Array.getElem?_eq_getElem hi] using q
  obtain ⟨hsets, hown0⟩ := atoms_of _ (rest_1_c_eq ▸ (show rest_1_c.before _ s = true from hrest))
  have hr0 := Cond.before_iff.mp hown0
  obtain ⟨i0, ei0⟩ := is_v gg3
  obtain rfl : w0 = (.int i0) := Option.some.inj ei0
  obtain ⟨i1, ei1⟩ := is_v gg5
  obtain rfl : w1 = (.int i1) := Option.some.inj ei1
  obtain ⟨i2, ei2⟩ := is_v gg7
  obtain rfl : w2 = (.int i2) := Option.some.inj ei2
  obtain ⟨i3, ei3⟩ := is_v gg9
  obtain rfl : w3 = (.int i3) := Option.some.inj ei3
  obtain ⟨i4, ei4⟩ := is_v gg11
  obtain rfl : w4 = (.int i4) := Option.some.inj ei4
  obtain ⟨i5, ei5⟩ := is_v gg12
  obtain rfl : w5 = (.int i5) := Option.some.inj ei5
  obtain ⟨gg13, gg14⟩ := and_e hn
  obtain ⟨gg15, gg16⟩ := and_e gg14
  obtain ⟨gg17, gg18⟩ := and_e gg16
  obtain ⟨gg19, gg20⟩ := and_e gg18
  obtain ⟨gg21, gg22⟩ := and_e gg20
  obtain ⟨gg23, gg24⟩ := and_e gg22
  obtain ⟨gg25, gg26⟩ := and_e gg24
  obtain ⟨s_KEY_DESCRIPTION_INVALID, ev_KEY_DESCRIPTION_INVALID⟩ := exa_v gg13
  have St_KEY_DESCRIPTION_INVALID := Sta.start ev_KEY_DESCRIPTION_INVALID (Or.inr ⟨(hw _ (List.mem_of_getElem? (i := 41) rfl)), (hw _ (List.mem_of_getElem? (i := 42) rfl))⟩)
  have Ex_KEY_DESCRIPTION_INVALID := Exa.start ev_KEY_DESCRIPTION_INVALID gg13
  obtain ⟨s_PROVISIONING_INFO_INVALID, ev_PROVISIONING_INFO_INVALID⟩ := exa_v gg15
  have St_PROVISIONING_INFO_INVALID := Sta.start ev_PROVISIONING_INFO_INVALID (Or.inr ⟨(hw _ (List.mem_of_getElem? (i := 41) rfl)), (hw _ (List.mem_of_getElem? (i := 73) rfl))⟩)
  have Ex_PROVISIONING_INFO_INVALID := Exa.start ev_PROVISIONING_INFO_INVALID gg15
  obtain ⟨s_ROOT_NOT_TRUSTED, ev_ROOT_NOT_TRUSTED⟩ := exa_v gg17
  have St_ROOT_NOT_TRUSTED := Sta.start ev_ROOT_NOT_TRUSTED (Or.inr ⟨(hw _ (List.mem_of_getElem? (i := 41) rfl)), (hw _ (List.mem_of_getElem? (i := 87) rfl))⟩)
  have Ex_ROOT_NOT_TRUSTED := Exa.start ev_ROOT_NOT_TRUSTED gg17
  obtain ⟨s_SIGNATURE_INVALID, ev_SIGNATURE_INVALID⟩ := exa_v gg19
  have St_SIGNATURE_INVALID := Sta.start ev_SIGNATURE_INVALID (Or.inr ⟨(hw _ (List.mem_of_getElem? (i := 41) rfl)), (hw _ (List.mem_of_getElem? (i := 89) rfl))⟩)
  have Ex_SIGNATURE_INVALID := Exa.start ev_SIGNATURE_INVALID gg19
  have Fo_SIGNATURE_INVALID := Fld.start (own_fi ev_SIGNATURE_INVALID gg21)
  have Fo_KEY_DESCRIPTION_INVALID := Fld.start (own_fi ev_KEY_DESCRIPTION_INVALID gg23)
  have Fo_ROOT_NOT_TRUSTED := Fld.start (own_fi ev_ROOT_NOT_TRUSTED gg25)
  have Fo_PROVISIONING_INFO_INVALID := Fld.start (own_fi ev_PROVISIONING_INFO_INVALID gg26)
  have rc0 := Cond.before_iff.mp (hsets _ (List.mem_of_getElem? (i := 1) rfl))
  obtain ⟨cs, ecs⟩ := is_v rc0
  have Scs := Sta.start ecs (Or.inl (hsets _ (List.mem_of_getElem? (i := 0) rfl)))
  have rc1 := not_v (Cond.before_iff.mp (hsets _ (List.mem_of_getElem? (i := 2) rfl)))
  have hcs : ¬ (cs = (0 : Int32)) := fun q => by
    have e : (Jvm.Cond.eq (Jvm.Term.static "java/lang/String" "COMPACT_STRINGS" "Z") (Jvm.Term.int (0 : Int32))).value #[.int i0, .int i1, .int i2, .int i3, .int i4, .int i5] s none s [] = some (decide (cs = (0 : Int32))) := by simp [Cond.value, ecs, Term.int_eval]
    rw [e] at rc1
    simp [q] at rc1
  obtain ⟨n, o, h1, h2, h3, _, L, rfl, ⟨rfl, N⟩, hq⟩ := rm0 l s _ hw tables_1 i0 i1 i2 i3 i4 i5 s_KEY_DESCRIPTION_INVALID s_PROVISIONING_INFO_INVALID s_SIGNATURE_INVALID s_ROOT_NOT_TRUSTED cs s.heap s.heap.size (Nat.le_refl _) (Old.start s) St_KEY_DESCRIPTION_INVALID St_PROVISIONING_INFO_INVALID St_SIGNATURE_INVALID St_ROOT_NOT_TRUSTED Scs hcs (Fld.ne Fo_KEY_DESCRIPTION_INVALID Fo_PROVISIONING_INFO_INVALID (by simp)) (Fld.ne Fo_KEY_DESCRIPTION_INVALID Fo_SIGNATURE_INVALID (by simp)) (Fld.ne Fo_KEY_DESCRIPTION_INVALID Fo_ROOT_NOT_TRUSTED (by simp)) (Fld.ne Fo_PROVISIONING_INFO_INVALID Fo_SIGNATURE_INVALID (by simp)) (Fld.ne Fo_PROVISIONING_INFO_INVALID Fo_ROOT_NOT_TRUSTED (by simp)) (Fld.ne Fo_SIGNATURE_INVALID Fo_ROOT_NOT_TRUSTED (by simp)) p e ha hc hk s m _ below hf ((Spec.applies_iff_loose hf).mp happ).1 ⟨rfl, State.Warmed39.refl s, rfl⟩ trivial
  refine ⟨n, _, h1, h2, h3, hpost _ _ _ _ _ _ ⟨Cond.after_iff.mpr rfl, Cond.after_iff.mpr (eq_i res_at (Term.int_eval (1)) rfl), trivial⟩ ⟨hq.1, hq.2.1, (hq.2.2.sift fun y hy => Or.inr (N y hy)).mono (by decide) (by decide)⟩⟩
theorem main_1_1 : Claimed_1_1 := comes_1 fun _ _ _ _ _ _ h hF => ⟨h.1, hF⟩
theorem main_1_2 : Claimed_1_2 := comes_1 fun _ _ _ _ _ _ h hF => ⟨h.2.1, hF⟩
end Jvm.Pilot.@@N@@
namespace Jvm.Pilot.@@N@@
open Jvm Jvm.ClassFile Sem Op Lib Jvm.Free Jvm.Stand Jvm.Pilot.@@N@@.Jvm.D
/-! MADE BY PROGRAM (witnessworld.py) out of the Statement's table words and the real class files: 22 classes; the members and pool entries that the words name. The judged class is class 1, her method 3. -/
namespace start1
open Jvm.ClassFile
def u (s : String) : CpInfo := .utf8 (stringToUtf16 s)
/-- a pool by its gaps: so many unusable entries, then the entry; so many at the end -/
def gap : Nat → List CpInfo → List CpInfo
  | 0, r => r
  | n + 1, r => .unusable :: gap n r
def poolList (es : List (Nat × CpInfo)) (last : Nat) : List CpInfo := es.foldr (fun e r => gap e.1 (e.2 :: r)) (gap last [])
def pool (es : List (Nat × CpInfo)) (last : Nat) : Array CpInfo := ⟨poolList es last⟩
def fileOf (pool : Array CpInfo) (this : Nat) (attrs : Array Attribute := #[]) (ms : Array MethodInfo := #[]) (fl : Nat := 33) (sup : Nat := 0) (ifs : Array Nat := #[]) (fds : Array FieldInfo := #[]) : ClassFile where
  minorVersion := 0
  majorVersion := 65
  constantPool := pool
  accessFlags := fl
  thisClass := this
  superClass := sup
  interfaces := ifs
  fields := fds
  methods := ms
  attributes := attrs
def plain (name : String) (sup : Option ClassId) : Class where
  name := name
  kind := .ordinary
  loader := none
  accessFlags := 33
  super := sup
  interfaces := #[]
  cf := none
  fields := #[]
  methods := #[]
  instanceTypes := #[]
  staticTypes := #[]
  resolved := #[]
  callSites := []
  init := .initialized
  statics := none
  mirror := none

def pool0 : Array CpInfo := pool [(5, u "<init>"), (0, u "()V"), (1, .class_ 10), (1, u "java/lang/Object")] 113

def k0c0 : Code := { maxStack := 0, maxLocals := 1, code := object_method_1_code, exceptionTable := #[], attributes := #[] }
def k0m0 : Method := { name := "<init>", desc := "()V", sig := { parameters := [], returnType := none }, accessFlags := 1, code := some k0c0 }
/-- java/lang/Object -/
def k0 : Class := { plain "java/lang/Object" none with
  accessFlags := 33
  interfaces := #[]
  cf := some (fileOf pool0 8 #[] #[{ accessFlags := 1, nameIndex := 5, descriptorIndex := 6, attributes := #[] }] 33 0 #[] #[])
  fields := #[]
  methods := #[k0m0]
  instanceTypes := #[]
  staticTypes := #[]
  resolved := Array.replicate 124 none
  statics := none }

def pool1 : Array CpInfo := pool [(2, .class_ 4), (1, u "java/lang/Object"), (0, u "<init>"), (0, u "()V"), (0, .fieldref 8 9), (0, .class_ 10), (0, .nameAndType 11 12), (0, u "com/example/fair_witness/fairwitness/verifier/Reason"), (0, u "KEY_DESCRIPTION_INVALID"), (0, u "Lcom/example/fair_witness/fairwitness/verifier/Reason;"), (0, .fieldref 8 14), (0, .nameAndType 15 12), (0, u "PROVISIONING_INFO_INVALID"), (0, .fieldref 8 17), (0, .nameAndType 18 12), (0, u "SIGNATURE_INVALID"), (0, .fieldref 8 20), (0, .nameAndType 21 12), (0, u "ROOT_NOT_TRUSTED"), (0, .methodref 23 24), (0, .class_ 25), (0, .nameAndType 26 27), (0, u "java/lang/String"), (0, u "valueOf"), (0, u "(C)Ljava/lang/String;"), (0, .methodref 23 29), (0, .nameAndType 5 30), (0, u "([C)V"), (0, .methodref 32 33), (0, .class_ 34), (0, .nameAndType 35 36), (0, u "com/example/fair_witness/fairwitness/verifier/DecodingFailureEqualsPinLaw"), (0, u "text"), (0, u "(ZCC)Ljava/lang/String;"), (0, .class_ 38), (0, u "com/example/fair_witness/fairwitness/verifier/DecodingFailure"), (0, .methodref 32 40), (0, .nameAndType 41 42), (0, u "reason"), (0, u "(I)Lcom/example/fair_witness/fairwitness/verifier/Reason;"), (0, .methodref 37 44), (0, .nameAndType 5 45), (0, u "(Lcom/example/fair_witness/fairwitness/verifier/Reason;ILjava/lang/String;)V"), (0, .methodref 37 47), (0, .nameAndType 48 49), (0, u "equals"), (0, u "(Ljava/lang/Object;)Z"), (3, u "law"), (0, u "(IIIIII)Z")] 2

def k1m0 : Method := { name := "<init>", desc := "()V", sig := { parameters := [], returnType := none }, accessFlags := 1, code := none }
def k1c1 : Code := { maxStack := 2, maxLocals := 1, code := method_2_code, exceptionTable := #[], attributes := #[] }
def k1m1 : Method := { name := "reason", desc := "(I)Lcom/example/fair_witness/fairwitness/verifier/Reason;", sig := { parameters := [.int], returnType := some (.object "com/example/fair_witness/fairwitness/verifier/Reason") }, accessFlags := 10, code := some k1c1 }
def k1c2 : Code := { maxStack := 6, maxLocals := 3, code := method_3_code, exceptionTable := #[], attributes := #[] }
def k1m2 : Method := { name := "text", desc := "(ZCC)Ljava/lang/String;", sig := { parameters := [.boolean, .char, .char], returnType := some (.object "java/lang/String") }, accessFlags := 10, code := some k1c2 }
def k1c3 : Code := { maxStack := 5, maxLocals := 23, code := code, exceptionTable := #[], attributes := #[] }
def k1m3 : Method := { name := "law", desc := "(IIIIII)Z", sig := { parameters := [.int, .int, .int, .int, .int, .int], returnType := some .boolean }, accessFlags := 9, code := some k1c3 }
/-- com/example/fair_witness/fairwitness/verifier/DecodingFailureEqualsPinLaw -/
def k1 : Class := { plain "com/example/fair_witness/fairwitness/verifier/DecodingFailureEqualsPinLaw" (some 0) with
  accessFlags := 49
  interfaces := #[]
  cf := some (fileOf pool1 32 #[] #[{ accessFlags := 1, nameIndex := 5, descriptorIndex := 6, attributes := #[] }, { accessFlags := 10, nameIndex := 41, descriptorIndex := 42, attributes := #[] }, { accessFlags := 10, nameIndex := 35, descriptorIndex := 36, attributes := #[] }, { accessFlags := 9, nameIndex := 53, descriptorIndex := 54, attributes := #[] }] 49 2 #[] #[])
  fields := #[]
  methods := #[k1m0, k1m1, k1m2, k1m3]
  instanceTypes := #[]
  staticTypes := #[]
  resolved := Array.replicate 57 none
  statics := none }

def pool2 : Array CpInfo := pool [(1, .class_ 2), (0, u "java/io/Serializable"), (0, .class_ 4), (0, u "java/lang/Object")] 2

/-- java/io/Serializable -/
def k2 : Class := { plain "java/io/Serializable" (some 0) with
  accessFlags := 1537
  interfaces := #[]
  cf := some (fileOf pool2 1 #[] #[] 1537 3 #[] #[])
  fields := #[]
  methods := #[]
  instanceTypes := #[]
  staticTypes := #[]
  resolved := Array.replicate 7 none
  statics := none }

def pool3 : Array CpInfo := pool [(1, .class_ 2), (0, u "java/lang/Comparable"), (0, .class_ 4), (0, u "java/lang/Object")] 7

/-- java/lang/Comparable -/
def k3 : Class := { plain "java/lang/Comparable" (some 0) with
  accessFlags := 1537
  interfaces := #[]
  cf := some (fileOf pool3 1 #[] #[] 1537 3 #[] #[])
  fields := #[]
  methods := #[]
  instanceTypes := #[]
  staticTypes := #[]
  resolved := Array.replicate 12 none
  statics := none }

def pool4 : Array CpInfo := pool [(2, .class_ 4), (1, u "java/lang/CharSequence"), (42, .class_ 48), (0, u "java/lang/CharSequence$1CodePointIterator"), (10, .class_ 60), (0, u "java/lang/CharSequence$1CharIterator"), (5, .class_ 67), (0, u "java/lang/Object")] 63

/-- java/lang/CharSequence -/
def k4 : Class := { plain "java/lang/CharSequence" (some 0) with
  accessFlags := 1537
  interfaces := #[]
  cf := some (fileOf pool4 2 #[.nestMembers #[47, 59]] #[] 1537 66 #[] #[])
  fields := #[]
  methods := #[]
  instanceTypes := #[]
  staticTypes := #[]
  resolved := Array.replicate 131 none
  statics := none }

def pool5 : Array CpInfo := pool [(1, .class_ 2), (0, u "java/lang/constant/Constable"), (0, .class_ 4), (0, u "java/lang/Object")] 6

/-- java/lang/constant/Constable -/
def k5 : Class := { plain "java/lang/constant/Constable" (some 0) with
  accessFlags := 1537
  interfaces := #[]
  cf := some (fileOf pool5 1 #[] #[] 1537 3 #[] #[])
  fields := #[]
  methods := #[]
  instanceTypes := #[]
  staticTypes := #[]
  resolved := Array.replicate 11 none
  statics := none }

def pool6 : Array CpInfo := pool [(1, .class_ 2), (0, u "java/lang/constant/ConstantDesc"), (0, .class_ 4), (0, u "java/lang/Object")] 32

/-- java/lang/constant/ConstantDesc -/
def k6 : Class := { plain "java/lang/constant/ConstantDesc" (some 0) with
  accessFlags := 1537
  interfaces := #[]
  cf := some (fileOf pool6 1 #[] #[] 1537 3 #[] #[])
  fields := #[]
  methods := #[]
  instanceTypes := #[]
  staticTypes := #[]
  resolved := Array.replicate 37 none
  statics := none }

def pool7 : Array CpInfo := pool [(1, .methodref 2 3), (0, .class_ 4), (0, .nameAndType 5 6), (0, u "java/lang/Object"), (0, u "<init>"), (0, u "()V"), (2, .fieldref 10 11), (0, .class_ 12), (0, .nameAndType 13 14), (0, u "java/lang/String"), (0, u "value"), (0, u "[B"), (0, .fieldref 10 16), (0, .nameAndType 17 18), (0, u "coder"), (0, u "B"), (2, u "hash"), (0, u "I"), (2, u "hashIsZero"), (0, u "Z"), (0, .methodref 10 28), (0, .nameAndType 5 29), (0, u "([CIILjava/lang/Void;)V"), (8, .fieldref 10 39), (0, .nameAndType 40 26), (0, u "COMPACT_STRINGS"), (1, .class_ 44), (1, u "java/lang/StringUTF16"), (0, u "compress"), (1, .methodref 42 48), (0, .nameAndType 49 50), (0, u "coderFromArrayLen"), (0, u "([BI)B"), (2, u "toBytes"), (53, .class_ 109), (1, u "java/lang/StringLatin1"), (67, .methodref 42 178), (0, .nameAndType 45 179), (0, u "([CII)[B"), (29, .methodref 10 210), (0, .nameAndType 5 211), (0, u "([BB)V"), (157, u "(C)Z"), (171, .methodref 107 542), (0, .nameAndType 543 544), (0, u "equals"), (0, u "([B[B)Z"), (28, u "(Ljava/lang/Object;)Z"), (1, .class_ 576), (0, u "java/lang/CharSequence"), (22, u "CASE_INSENSITIVE_ORDER"), (0, u "Ljava/util/Comparator;"), (181, u "valueOf"), (0, u "(C)Ljava/lang/String;"), (226, u "([C)V"), (4, .methodref 107 1016), (0, .nameAndType 1017 369), (0, u "canEncode"), (0, .methodref 107 1019), (0, .nameAndType 53 1020), (0, u "(C)[B"), (80, u "serialPersistentFields"), (0, u "[Ljava/io/ObjectStreamField;"), (0, .class_ 1104), (0, u "java/lang/String$CaseInsensitiveComparator"), (1, .class_ 1107), (0, u "java/io/Serializable"), (0, .class_ 1109), (0, u "java/lang/Comparable"), (0, .class_ 1111), (0, u "java/lang/constant/Constable"), (0, .class_ 1113), (0, u "java/lang/constant/ConstantDesc"), (2, u "serialVersionUID"), (0, u "J"), (3, u "REPL"), (0, u "C"), (2, u "LATIN1"), (1, u "UTF16")] 323

def k7m0 : Method := { name := "<init>", desc := "()V", sig := { parameters := [], returnType := none }, accessFlags := 1, code := none }
def k7c1 : Code := { maxStack := 5, maxLocals := 2, code := jdk_42_method_3_code, exceptionTable := #[], attributes := #[] }
def k7m1 : Method := { name := "<init>", desc := "([C)V", sig := { parameters := [(.array .char)], returnType := none }, accessFlags := 1, code := some k7c1 }
def k7c2 : Code := { maxStack := 2, maxLocals := 3, code := jdk_42_method_66_code, exceptionTable := #[], attributes := #[] }
def k7m2 : Method := { name := "equals", desc := "(Ljava/lang/Object;)Z", sig := { parameters := [(.object "java/lang/Object")], returnType := some .boolean }, accessFlags := 1, code := some k7c2 }
def k7c3 : Code := { maxStack := 4, maxLocals := 1, code := jdk_42_method_139_code, exceptionTable := #[], attributes := #[] }
def k7m3 : Method := { name := "valueOf", desc := "(C)Ljava/lang/String;", sig := { parameters := [.char], returnType := some (.object "java/lang/String") }, accessFlags := 9, code := some k7c3 }
def k7c4 : Code := { maxStack := 4, maxLocals := 6, code := jdk_42_method_149_code, exceptionTable := #[], attributes := #[] }
def k7m4 : Method := { name := "<init>", desc := "([CIILjava/lang/Void;)V", sig := { parameters := [(.array .char), .int, .int, (.object "java/lang/Void")], returnType := none }, accessFlags := 2, code := some k7c4 }
def k7c5 : Code := { maxStack := 2, maxLocals := 3, code := jdk_42_method_151_code, exceptionTable := #[], attributes := #[] }
def k7m5 : Method := { name := "<init>", desc := "([BB)V", sig := { parameters := [(.array .byte), .byte], returnType := none }, accessFlags := 0, code := some k7c5 }
/-- java/lang/String -/
def k7 : Class := { plain "java/lang/String" (some 0) with
  accessFlags := 49
  interfaces := #[2, 3, 4, 5, 6]
  cf := some (fileOf pool7 10 #[.nestMembers #[1103]] #[{ accessFlags := 1, nameIndex := 5, descriptorIndex := 6, attributes := #[] }, { accessFlags := 1, nameIndex := 5, descriptorIndex := 1010, attributes := #[] }, { accessFlags := 1, nameIndex := 543, descriptorIndex := 573, attributes := #[] }, { accessFlags := 9, nameIndex := 782, descriptorIndex := 783, attributes := #[] }, { accessFlags := 2, nameIndex := 5, descriptorIndex := 29, attributes := #[] }, { accessFlags := 0, nameIndex := 5, descriptorIndex := 211, attributes := #[] }] 49 2 #[1106, 1108, 575, 1110, 1112] #[{ accessFlags := 18, nameIndex := 13, descriptorIndex := 14, attributes := #[] }, { accessFlags := 18, nameIndex := 17, descriptorIndex := 18, attributes := #[] }, { accessFlags := 2, nameIndex := 21, descriptorIndex := 22, attributes := #[] }, { accessFlags := 2, nameIndex := 25, descriptorIndex := 26, attributes := #[] }, { accessFlags := 26, nameIndex := 1116, descriptorIndex := 1117, attributes := #[] }, { accessFlags := 24, nameIndex := 40, descriptorIndex := 26, attributes := #[] }, { accessFlags := 26, nameIndex := 1101, descriptorIndex := 1102, attributes := #[] }, { accessFlags := 26, nameIndex := 1121, descriptorIndex := 1122, attributes := #[] }, { accessFlags := 25, nameIndex := 599, descriptorIndex := 600, attributes := #[] }, { accessFlags := 24, nameIndex := 1125, descriptorIndex := 18, attributes := #[] }, { accessFlags := 24, nameIndex := 1127, descriptorIndex := 18, attributes := #[] }])
  fields := #[{ name := "value", type := (.array .byte), accessFlags := 18, slot := 0, constantValue := 0 }, { name := "coder", type := .byte, accessFlags := 18, slot := 1, constantValue := 0 }, { name := "hash", type := .int, accessFlags := 2, slot := 2, constantValue := 0 }, { name := "hashIsZero", type := .boolean, accessFlags := 2, slot := 3, constantValue := 0 }, { name := "serialVersionUID", type := .long, accessFlags := 26, slot := 0, constantValue := 0 }, { name := "COMPACT_STRINGS", type := .boolean, accessFlags := 24, slot := 1, constantValue := 0 }, { name := "serialPersistentFields", type := (.array (.object "java/io/ObjectStreamField")), accessFlags := 26, slot := 2, constantValue := 0 }, { name := "REPL", type := .char, accessFlags := 26, slot := 3, constantValue := 0 }, { name := "CASE_INSENSITIVE_ORDER", type := (.object "java/util/Comparator"), accessFlags := 25, slot := 4, constantValue := 0 }, { name := "LATIN1", type := .byte, accessFlags := 24, slot := 5, constantValue := 0 }, { name := "UTF16", type := .byte, accessFlags := 24, slot := 6, constantValue := 0 }]
  methods := #[k7m0, k7m1, k7m2, k7m3, k7m4, k7m5]
  instanceTypes := #[(.array .byte), .byte, .int, .boolean]
  staticTypes := #[.long, .boolean, (.array (.object "java/io/ObjectStreamField")), .char, (.object "java/util/Comparator"), .byte, .byte]
  resolved := Array.replicate 1451 none
  statics := some 0 }

def pool8 : Array CpInfo := pool [(6, .class_ 8), (1, u "java/lang/Object"), (0, u "<init>"), (0, u "()V"), (1, .class_ 14), (1, u "java/lang/StringUTF16"), (31, u "$assertionsDisabled"), (0, u "Z"), (13, u "HI_BYTE_SHIFT"), (0, u "I"), (2, u "LO_BYTE_SHIFT"), (49, .methodref 12 116), (0, .nameAndType 117 118), (0, u "compress"), (0, u "([CI[BII)I"), (3, u "([CII)[B"), (138, u "coderFromArrayLen"), (0, u "([BI)B"), (106, .class_ 371), (1, u "java/lang/StringUTF16$LinesSpliterator"), (58, u "MAX_LENGTH"), (196, .class_ 628), (0, u "java/lang/StringUTF16$CodePointsSpliterator"), (0, .class_ 630), (0, u "java/lang/StringUTF16$CharsSpliterator")] 4

def k8m0 : Method := { name := "<init>", desc := "()V", sig := { parameters := [], returnType := none }, accessFlags := 0, code := none }
def k8c1 : Code := { maxStack := 2, maxLocals := 2, code := jdk_52_method_15_code, exceptionTable := #[], attributes := #[] }
def k8m1 : Method := { name := "coderFromArrayLen", desc := "([BI)B", sig := { parameters := [(.array .byte), .int], returnType := some .byte }, accessFlags := 8, code := some k8c1 }
def k8c2 : Code := { maxStack := 5, maxLocals := 6, code := jdk_52_method_16_code, exceptionTable := #[], attributes := #[] }
def k8m2 : Method := { name := "compress", desc := "([CII)[B", sig := { parameters := [(.array .char), .int, .int], returnType := some (.array .byte) }, accessFlags := 9, code := some k8c2 }
def k8c3 : Code := { maxStack := 3, maxLocals := 7, code := jdk_52_method_21_code, exceptionTable := #[], attributes := #[] }
def k8m3 : Method := { name := "compress", desc := "([CI[BII)I", sig := { parameters := [(.array .char), .int, (.array .byte), .int, .int], returnType := some .int }, accessFlags := 9, code := some k8c3 }
/-- java/lang/StringUTF16 -/
def k8 : Class := { plain "java/lang/StringUTF16" (some 0) with
  accessFlags := 48
  interfaces := #[]
  cf := some (fileOf pool8 12 #[.nestMembers #[627, 629, 369]] #[{ accessFlags := 0, nameIndex := 9, descriptorIndex := 10, attributes := #[] }, { accessFlags := 8, nameIndex := 261, descriptorIndex := 262, attributes := #[] }, { accessFlags := 9, nameIndex := 117, descriptorIndex := 122, attributes := #[] }, { accessFlags := 9, nameIndex := 117, descriptorIndex := 118, attributes := #[] }] 48 6 #[] #[{ accessFlags := 26, nameIndex := 61, descriptorIndex := 62, attributes := #[] }, { accessFlags := 26, nameIndex := 65, descriptorIndex := 62, attributes := #[] }, { accessFlags := 24, nameIndex := 430, descriptorIndex := 62, attributes := #[] }, { accessFlags := 4120, nameIndex := 46, descriptorIndex := 47, attributes := #[] }])
  fields := #[{ name := "HI_BYTE_SHIFT", type := .int, accessFlags := 26, slot := 0, constantValue := 0 }, { name := "LO_BYTE_SHIFT", type := .int, accessFlags := 26, slot := 1, constantValue := 0 }, { name := "MAX_LENGTH", type := .int, accessFlags := 24, slot := 2, constantValue := 0 }, { name := "$assertionsDisabled", type := .boolean, accessFlags := 4120, slot := 3, constantValue := 0 }]
  methods := #[k8m0, k8m1, k8m2, k8m3]
  instanceTypes := #[]
  staticTypes := #[.int, .int, .int, .boolean]
  resolved := Array.replicate 635 none
  statics := none }

def pool9 : Array CpInfo := pool [(1, .methodref 2 3), (0, .class_ 4), (0, .nameAndType 5 6), (0, u "java/lang/Object"), (0, u "<init>"), (0, u "()V"), (0, .fieldref 8 9), (0, .class_ 10), (0, .nameAndType 11 12), (0, u "com/example/fair_witness/fairwitness/verifier/DecodingFailure"), (0, u "reason"), (0, u "Lcom/example/fair_witness/fairwitness/verifier/Reason;"), (0, .fieldref 8 14), (0, .nameAndType 15 16), (0, u "certificateIndex"), (0, u "I"), (0, .fieldref 8 18), (0, .nameAndType 19 20), (0, u "detail"), (0, u "Ljava/lang/String;"), (0, .methodref 22 23), (0, .class_ 24), (0, .nameAndType 25 26), (0, u "java/lang/String"), (0, u "equals"), (0, u "(Ljava/lang/Object;)Z"), (12, u "(Lcom/example/fair_witness/fairwitness/verifier/Reason;ILjava/lang/String;)V")] 9

def k9c0 : Code := { maxStack := 2, maxLocals := 4, code := prog_25_method_1_code, exceptionTable := #[], attributes := #[] }
def k9m0 : Method := { name := "<init>", desc := "(Lcom/example/fair_witness/fairwitness/verifier/Reason;ILjava/lang/String;)V", sig := { parameters := [(.object "com/example/fair_witness/fairwitness/verifier/Reason"), .int, (.object "java/lang/String")], returnType := none }, accessFlags := 0, code := some k9c0 }
def k9c1 : Code := { maxStack := 2, maxLocals := 3, code := prog_25_method_5_code, exceptionTable := #[], attributes := #[] }
def k9m1 : Method := { name := "equals", desc := "(Ljava/lang/Object;)Z", sig := { parameters := [(.object "java/lang/Object")], returnType := some .boolean }, accessFlags := 1, code := some k9c1 }
/-- com/example/fair_witness/fairwitness/verifier/DecodingFailure -/
def k9 : Class := { plain "com/example/fair_witness/fairwitness/verifier/DecodingFailure" (some 0) with
  accessFlags := 49
  interfaces := #[]
  cf := some (fileOf pool9 8 #[] #[{ accessFlags := 0, nameIndex := 5, descriptorIndex := 39, attributes := #[] }, { accessFlags := 1, nameIndex := 25, descriptorIndex := 26, attributes := #[] }] 49 2 #[] #[{ accessFlags := 18, nameIndex := 11, descriptorIndex := 12, attributes := #[] }, { accessFlags := 18, nameIndex := 15, descriptorIndex := 16, attributes := #[] }, { accessFlags := 18, nameIndex := 19, descriptorIndex := 20, attributes := #[] }])
  fields := #[{ name := "reason", type := (.object "com/example/fair_witness/fairwitness/verifier/Reason"), accessFlags := 18, slot := 0, constantValue := 0 }, { name := "certificateIndex", type := .int, accessFlags := 18, slot := 1, constantValue := 0 }, { name := "detail", type := (.object "java/lang/String"), accessFlags := 18, slot := 2, constantValue := 0 }]
  methods := #[k9m0, k9m1]
  instanceTypes := #[(.object "com/example/fair_witness/fairwitness/verifier/Reason"), .int, (.object "java/lang/String")]
  staticTypes := #[]
  resolved := Array.replicate 49 none
  statics := none }

def pool10 : Array CpInfo := pool [(2, .class_ 4), (1, u "java/lang/Enum"), (0, u "name"), (0, u "Ljava/lang/String;"), (2, u "ordinal"), (0, u "I"), (1, .class_ 14), (1, u "java/lang/Object"), (4, u "hash"), (86, .class_ 108), (1, u "java/lang/Enum$EnumDesc"), (2, .class_ 112), (0, u "java/lang/constant/Constable"), (0, .class_ 114), (0, u "java/lang/Comparable"), (0, .class_ 116), (0, u "java/io/Serializable")] 87

/-- java/lang/Enum -/
def k10 : Class := { plain "java/lang/Enum" (some 0) with
  accessFlags := 1057
  interfaces := #[5, 3, 2]
  cf := some (fileOf pool10 2 #[.nestMembers #[106]] #[] 1057 12 #[111, 113, 115] #[{ accessFlags := 18, nameIndex := 5, descriptorIndex := 6, attributes := #[] }, { accessFlags := 18, nameIndex := 9, descriptorIndex := 10, attributes := #[] }, { accessFlags := 2, nameIndex := 19, descriptorIndex := 10, attributes := #[] }])
  fields := #[{ name := "name", type := (.object "java/lang/String"), accessFlags := 18, slot := 0, constantValue := 0 }, { name := "ordinal", type := .int, accessFlags := 18, slot := 1, constantValue := 0 }, { name := "hash", type := .int, accessFlags := 2, slot := 2, constantValue := 0 }]
  methods := #[]
  instanceTypes := #[(.object "java/lang/String"), .int, .int]
  staticTypes := #[]
  resolved := Array.replicate 204 none
  statics := none }

def pool11 : Array CpInfo := pool [(1, .class_ 2), (0, u "com/example/fair_witness/fairwitness/verifier/Reason"), (2, u "SIGNATURE_INVALID"), (0, u "Lcom/example/fair_witness/fairwitness/verifier/Reason;"), (2, u "CERTIFICATE_NOT_VALID_AT_INSTANT"), (2, u "NO_KEY_DESCRIPTION"), (2, u "KEY_DESCRIPTION_INVALID"), (2, u "PROVISIONING_INFO_MISPLACED"), (2, u "PROVISIONING_INFO_INVALID"), (2, u "ROOT_NOT_TRUSTED"), (2, u "SOFTWARE_ATTESTATION_ROOT"), (2, u "CERTIFICATE_REVOKED"), (2, u "CERTIFICATE_SUSPENDED"), (2, u "SOFTWARE_SECURITY_LEVEL"), (2, u "CHALLENGE_MISMATCH"), (2, u "PACKAGE_NOT_ATTESTED"), (2, u "SIGNING_DIGEST_NOT_ATTESTED"), (2, u "SECURITY_LEVEL_TOO_LOW"), (2, u "DEVICE_NOT_LOCKED"), (2, u "BOOT_NOT_VERIFIED"), (2, u "OS_VERSION_TOO_OLD"), (2, u "OS_VERSION_NOT_ATTESTED"), (2, u "OS_PATCH_LEVEL_TOO_OLD"), (2, u "OS_PATCH_LEVEL_NOT_ATTESTED"), (2, u "VENDOR_PATCH_LEVEL_TOO_OLD"), (2, u "VENDOR_PATCH_LEVEL_NOT_ATTESTED"), (2, u "BOOT_PATCH_LEVEL_TOO_OLD"), (2, u "BOOT_PATCH_LEVEL_NOT_ATTESTED"), (2, u "$VALUES"), (0, u "[Lcom/example/fair_witness/fairwitness/verifier/Reason;"), (6, .class_ 91), (1, u "java/lang/Enum"), (8, u "code"), (0, u "Ljava/lang/String;"), (2, u "verdict"), (0, u "Lcom/example/fair_witness/fairwitness/verifier/Verdict;")] 113

/-- com/example/fair_witness/fairwitness/verifier/Reason -/
def k11 : Class := { plain "com/example/fair_witness/fairwitness/verifier/Reason" (some 10) with
  accessFlags := 16433
  interfaces := #[]
  cf := some (fileOf pool11 1 #[] #[] 16433 89 #[] #[{ accessFlags := 16409, nameIndex := 5, descriptorIndex := 6, attributes := #[] }, { accessFlags := 16409, nameIndex := 9, descriptorIndex := 6, attributes := #[] }, { accessFlags := 16409, nameIndex := 12, descriptorIndex := 6, attributes := #[] }, { accessFlags := 16409, nameIndex := 15, descriptorIndex := 6, attributes := #[] }, { accessFlags := 16409, nameIndex := 18, descriptorIndex := 6, attributes := #[] }, { accessFlags := 16409, nameIndex := 21, descriptorIndex := 6, attributes := #[] }, { accessFlags := 16409, nameIndex := 24, descriptorIndex := 6, attributes := #[] }, { accessFlags := 16409, nameIndex := 27, descriptorIndex := 6, attributes := #[] }, { accessFlags := 16409, nameIndex := 30, descriptorIndex := 6, attributes := #[] }, { accessFlags := 16409, nameIndex := 33, descriptorIndex := 6, attributes := #[] }, { accessFlags := 16409, nameIndex := 36, descriptorIndex := 6, attributes := #[] }, { accessFlags := 16409, nameIndex := 39, descriptorIndex := 6, attributes := #[] }, { accessFlags := 16409, nameIndex := 42, descriptorIndex := 6, attributes := #[] }, { accessFlags := 16409, nameIndex := 45, descriptorIndex := 6, attributes := #[] }, { accessFlags := 16409, nameIndex := 48, descriptorIndex := 6, attributes := #[] }, { accessFlags := 16409, nameIndex := 51, descriptorIndex := 6, attributes := #[] }, { accessFlags := 16409, nameIndex := 54, descriptorIndex := 6, attributes := #[] }, { accessFlags := 16409, nameIndex := 57, descriptorIndex := 6, attributes := #[] }, { accessFlags := 16409, nameIndex := 60, descriptorIndex := 6, attributes := #[] }, { accessFlags := 16409, nameIndex := 63, descriptorIndex := 6, attributes := #[] }, { accessFlags := 16409, nameIndex := 66, descriptorIndex := 6, attributes := #[] }, { accessFlags := 16409, nameIndex := 69, descriptorIndex := 6, attributes := #[] }, { accessFlags := 16409, nameIndex := 72, descriptorIndex := 6, attributes := #[] }, { accessFlags := 16409, nameIndex := 75, descriptorIndex := 6, attributes := #[] }, { accessFlags := 16409, nameIndex := 78, descriptorIndex := 6, attributes := #[] }, { accessFlags := 18, nameIndex := 100, descriptorIndex := 101, attributes := #[] }, { accessFlags := 18, nameIndex := 104, descriptorIndex := 105, attributes := #[] }, { accessFlags := 4122, nameIndex := 81, descriptorIndex := 82, attributes := #[] }])
  fields := #[{ name := "SIGNATURE_INVALID", type := (.object "com/example/fair_witness/fairwitness/verifier/Reason"), accessFlags := 16409, slot := 0, constantValue := 0 }, { name := "CERTIFICATE_NOT_VALID_AT_INSTANT", type := (.object "com/example/fair_witness/fairwitness/verifier/Reason"), accessFlags := 16409, slot := 1, constantValue := 0 }, { name := "NO_KEY_DESCRIPTION", type := (.object "com/example/fair_witness/fairwitness/verifier/Reason"), accessFlags := 16409, slot := 2, constantValue := 0 }, { name := "KEY_DESCRIPTION_INVALID", type := (.object "com/example/fair_witness/fairwitness/verifier/Reason"), accessFlags := 16409, slot := 3, constantValue := 0 }, { name := "PROVISIONING_INFO_MISPLACED", type := (.object "com/example/fair_witness/fairwitness/verifier/Reason"), accessFlags := 16409, slot := 4, constantValue := 0 }, { name := "PROVISIONING_INFO_INVALID", type := (.object "com/example/fair_witness/fairwitness/verifier/Reason"), accessFlags := 16409, slot := 5, constantValue := 0 }, { name := "ROOT_NOT_TRUSTED", type := (.object "com/example/fair_witness/fairwitness/verifier/Reason"), accessFlags := 16409, slot := 6, constantValue := 0 }, { name := "SOFTWARE_ATTESTATION_ROOT", type := (.object "com/example/fair_witness/fairwitness/verifier/Reason"), accessFlags := 16409, slot := 7, constantValue := 0 }, { name := "CERTIFICATE_REVOKED", type := (.object "com/example/fair_witness/fairwitness/verifier/Reason"), accessFlags := 16409, slot := 8, constantValue := 0 }, { name := "CERTIFICATE_SUSPENDED", type := (.object "com/example/fair_witness/fairwitness/verifier/Reason"), accessFlags := 16409, slot := 9, constantValue := 0 }, { name := "SOFTWARE_SECURITY_LEVEL", type := (.object "com/example/fair_witness/fairwitness/verifier/Reason"), accessFlags := 16409, slot := 10, constantValue := 0 }, { name := "CHALLENGE_MISMATCH", type := (.object "com/example/fair_witness/fairwitness/verifier/Reason"), accessFlags := 16409, slot := 11, constantValue := 0 }, { name := "PACKAGE_NOT_ATTESTED", type := (.object "com/example/fair_witness/fairwitness/verifier/Reason"), accessFlags := 16409, slot := 12, constantValue := 0 }, { name := "SIGNING_DIGEST_NOT_ATTESTED", type := (.object "com/example/fair_witness/fairwitness/verifier/Reason"), accessFlags := 16409, slot := 13, constantValue := 0 }, { name := "SECURITY_LEVEL_TOO_LOW", type := (.object "com/example/fair_witness/fairwitness/verifier/Reason"), accessFlags := 16409, slot := 14, constantValue := 0 }, { name := "DEVICE_NOT_LOCKED", type := (.object "com/example/fair_witness/fairwitness/verifier/Reason"), accessFlags := 16409, slot := 15, constantValue := 0 }, { name := "BOOT_NOT_VERIFIED", type := (.object "com/example/fair_witness/fairwitness/verifier/Reason"), accessFlags := 16409, slot := 16, constantValue := 0 }, { name := "OS_VERSION_TOO_OLD", type := (.object "com/example/fair_witness/fairwitness/verifier/Reason"), accessFlags := 16409, slot := 17, constantValue := 0 }, { name := "OS_VERSION_NOT_ATTESTED", type := (.object "com/example/fair_witness/fairwitness/verifier/Reason"), accessFlags := 16409, slot := 18, constantValue := 0 }, { name := "OS_PATCH_LEVEL_TOO_OLD", type := (.object "com/example/fair_witness/fairwitness/verifier/Reason"), accessFlags := 16409, slot := 19, constantValue := 0 }, { name := "OS_PATCH_LEVEL_NOT_ATTESTED", type := (.object "com/example/fair_witness/fairwitness/verifier/Reason"), accessFlags := 16409, slot := 20, constantValue := 0 }, { name := "VENDOR_PATCH_LEVEL_TOO_OLD", type := (.object "com/example/fair_witness/fairwitness/verifier/Reason"), accessFlags := 16409, slot := 21, constantValue := 0 }, { name := "VENDOR_PATCH_LEVEL_NOT_ATTESTED", type := (.object "com/example/fair_witness/fairwitness/verifier/Reason"), accessFlags := 16409, slot := 22, constantValue := 0 }, { name := "BOOT_PATCH_LEVEL_TOO_OLD", type := (.object "com/example/fair_witness/fairwitness/verifier/Reason"), accessFlags := 16409, slot := 23, constantValue := 0 }, { name := "BOOT_PATCH_LEVEL_NOT_ATTESTED", type := (.object "com/example/fair_witness/fairwitness/verifier/Reason"), accessFlags := 16409, slot := 24, constantValue := 0 }, { name := "code", type := (.object "java/lang/String"), accessFlags := 18, slot := 3, constantValue := 0 }, { name := "verdict", type := (.object "com/example/fair_witness/fairwitness/verifier/Verdict"), accessFlags := 18, slot := 4, constantValue := 0 }, { name := "$VALUES", type := (.array (.object "com/example/fair_witness/fairwitness/verifier/Reason")), accessFlags := 4122, slot := 25, constantValue := 0 }]
  methods := #[]
  instanceTypes := #[(.object "java/lang/String"), .int, .int, (.object "java/lang/String"), (.object "com/example/fair_witness/fairwitness/verifier/Verdict")]
  staticTypes := #[(.object "com/example/fair_witness/fairwitness/verifier/Reason"), (.object "com/example/fair_witness/fairwitness/verifier/Reason"), (.object "com/example/fair_witness/fairwitness/verifier/Reason"), (.object "com/example/fair_witness/fairwitness/verifier/Reason"), (.object "com/example/fair_witness/fairwitness/verifier/Reason"), (.object "com/example/fair_witness/fairwitness/verifier/Reason"), (.object "com/example/fair_witness/fairwitness/verifier/Reason"), (.object "com/example/fair_witness/fairwitness/verifier/Reason"), (.object "com/example/fair_witness/fairwitness/verifier/Reason"), (.object "com/example/fair_witness/fairwitness/verifier/Reason"), (.object "com/example/fair_witness/fairwitness/verifier/Reason"), (.object "com/example/fair_witness/fairwitness/verifier/Reason"), (.object "com/example/fair_witness/fairwitness/verifier/Reason"), (.object "com/example/fair_witness/fairwitness/verifier/Reason"), (.object "com/example/fair_witness/fairwitness/verifier/Reason"), (.object "com/example/fair_witness/fairwitness/verifier/Reason"), (.object "com/example/fair_witness/fairwitness/verifier/Reason"), (.object "com/example/fair_witness/fairwitness/verifier/Reason"), (.object "com/example/fair_witness/fairwitness/verifier/Reason"), (.object "com/example/fair_witness/fairwitness/verifier/Reason"), (.object "com/example/fair_witness/fairwitness/verifier/Reason"), (.object "com/example/fair_witness/fairwitness/verifier/Reason"), (.object "com/example/fair_witness/fairwitness/verifier/Reason"), (.object "com/example/fair_witness/fairwitness/verifier/Reason"), (.object "com/example/fair_witness/fairwitness/verifier/Reason"), (.array (.object "com/example/fair_witness/fairwitness/verifier/Reason"))]
  resolved := Array.replicate 219 none
  statics := some 1 }

def pool12 : Array CpInfo := pool [(4, .class_ 6), (1, u "java/lang/Object"), (0, u "<init>"), (0, u "()V"), (5, .class_ 16), (1, u "java/lang/StringLatin1"), (73, u "canEncode"), (14, u "(C)Z"), (15, u "$assertionsDisabled"), (0, u "Z"), (98, .class_ 223), (1, u "java/lang/StringLatin1$LinesSpliterator"), (57, u "equals"), (0, u "([B[B)Z"), (97, u "toBytes"), (1, u "(C)[B"), (7, .class_ 391), (0, u "java/lang/StringLatin1$CharsSpliterator")] 3

def k12m0 : Method := { name := "<init>", desc := "()V", sig := { parameters := [], returnType := none }, accessFlags := 0, code := none }
def k12c1 : Code := { maxStack := 2, maxLocals := 1, code := jdk_43_method_3_code, exceptionTable := #[], attributes := #[] }
def k12m1 : Method := { name := "canEncode", desc := "(C)Z", sig := { parameters := [.char], returnType := some .boolean }, accessFlags := 9, code := some k12c1 }
def k12c2 : Code := { maxStack := 3, maxLocals := 3, code := jdk_43_method_13_code, exceptionTable := #[], attributes := #[] }
def k12m2 : Method := { name := "equals", desc := "([B[B)Z", sig := { parameters := [(.array .byte), (.array .byte)], returnType := some .boolean }, accessFlags := 9, code := some k12c2 }
def k12c3 : Code := { maxStack := 4, maxLocals := 1, code := jdk_43_method_46_code, exceptionTable := #[], attributes := #[] }
def k12m3 : Method := { name := "toBytes", desc := "(C)[B", sig := { parameters := [.char], returnType := some (.array .byte) }, accessFlags := 9, code := some k12c3 }
/-- java/lang/StringLatin1 -/
def k12 : Class := { plain "java/lang/StringLatin1" (some 0) with
  accessFlags := 48
  interfaces := #[]
  cf := some (fileOf pool12 14 #[.nestMembers #[390, 221]] #[{ accessFlags := 0, nameIndex := 7, descriptorIndex := 8, attributes := #[] }, { accessFlags := 9, nameIndex := 90, descriptorIndex := 105, attributes := #[] }, { accessFlags := 9, nameIndex := 281, descriptorIndex := 282, attributes := #[] }, { accessFlags := 9, nameIndex := 380, descriptorIndex := 382, attributes := #[] }] 48 4 #[] #[{ accessFlags := 4120, nameIndex := 121, descriptorIndex := 122, attributes := #[] }])
  fields := #[{ name := "$assertionsDisabled", type := .boolean, accessFlags := 4120, slot := 0, constantValue := 0 }]
  methods := #[k12m0, k12m1, k12m2, k12m3]
  instanceTypes := #[]
  staticTypes := #[.boolean]
  resolved := Array.replicate 395 none
  statics := none }

def pool13 : Array CpInfo := pool [(2, .class_ 4), (1, u "java/lang/Object"), (0, u "<init>"), (0, u "()V"), (17, .class_ 26), (1, u "jdk/internal/util/Preconditions"), (28, .class_ 56), (0, u "jdk/internal/util/Preconditions$4"), (57, .class_ 115), (0, u "jdk/internal/util/Preconditions$1"), (7, u "SIOOBE_FORMATTER"), (0, u "Ljava/util/function/BiFunction;"), (0, .class_ 126), (0, u "jdk/internal/util/Preconditions$2"), (3, u "AIOOBE_FORMATTER"), (0, .class_ 132), (0, u "jdk/internal/util/Preconditions$3"), (3, u "IOOBE_FORMATTER")] 57

def k13m0 : Method := { name := "<init>", desc := "()V", sig := { parameters := [], returnType := none }, accessFlags := 1, code := none }
/-- jdk/internal/util/Preconditions -/
def k13 : Class := { plain "jdk/internal/util/Preconditions" (some 0) with
  accessFlags := 33
  interfaces := #[]
  cf := some (fileOf pool13 24 #[.nestMembers #[55, 131, 125, 114]] #[{ accessFlags := 1, nameIndex := 5, descriptorIndex := 6, attributes := #[] }] 33 2 #[] #[{ accessFlags := 25, nameIndex := 123, descriptorIndex := 124, attributes := #[] }, { accessFlags := 25, nameIndex := 130, descriptorIndex := 124, attributes := #[] }, { accessFlags := 25, nameIndex := 136, descriptorIndex := 124, attributes := #[] }])
  fields := #[{ name := "SIOOBE_FORMATTER", type := (.object "java/util/function/BiFunction"), accessFlags := 25, slot := 0, constantValue := 0 }, { name := "AIOOBE_FORMATTER", type := (.object "java/util/function/BiFunction"), accessFlags := 25, slot := 1, constantValue := 0 }, { name := "IOOBE_FORMATTER", type := (.object "java/util/function/BiFunction"), accessFlags := 25, slot := 2, constantValue := 0 }]
  methods := #[k13m0]
  instanceTypes := #[]
  staticTypes := #[(.object "java/util/function/BiFunction"), (.object "java/util/function/BiFunction"), (.object "java/util/function/BiFunction")]
  resolved := Array.replicate 194 none
  statics := some 2 }

def pool14 : Array CpInfo := pool [(9, u "<init>"), (6, .class_ 18), (1, u "java/lang/Object"), (0, u "()V"), (1, .class_ 23), (1, u "jdk/internal/util/ArraysSupport"), (0, u "LOG2_ARRAY_LONG_INDEX_SCALE"), (0, u "I"), (2, u "U"), (0, u "Ljdk/internal/misc/Unsafe;"), (8, u "BIG_ENDIAN"), (0, u "Z"), (8, u "LOG2_BYTE_BIT_SIZE"), (4, u "LOG2_ARRAY_INT_INDEX_SCALE"), (54, u "JLA"), (0, u "Ljdk/internal/access/JavaLangAccess;"), (11, u "LOG2_ARRAY_BOOLEAN_INDEX_SCALE"), (9, u "LOG2_ARRAY_BYTE_INDEX_SCALE"), (5, u "LOG2_ARRAY_CHAR_INDEX_SCALE"), (5, u "LOG2_ARRAY_SHORT_INDEX_SCALE"), (18, u "LOG2_ARRAY_FLOAT_INDEX_SCALE"), (24, u "LOG2_ARRAY_DOUBLE_INDEX_SCALE"), (89, u "T_BOOLEAN"), (2, u "T_CHAR"), (1, u "T_FLOAT"), (1, u "T_DOUBLE"), (1, u "T_BYTE"), (1, u "T_SHORT"), (1, u "T_INT"), (1, u "T_LONG"), (1, u "SOFT_MAX_ARRAY_LENGTH")] 83

def k14m0 : Method := { name := "<init>", desc := "()V", sig := { parameters := [], returnType := none }, accessFlags := 2, code := none }
/-- jdk/internal/util/ArraysSupport -/
def k14 : Class := { plain "jdk/internal/util/ArraysSupport" (some 0) with
  accessFlags := 33
  interfaces := #[]
  cf := some (fileOf pool14 21 #[] #[{ accessFlags := 2, nameIndex := 9, descriptorIndex := 19, attributes := #[] }] 33 16 #[] #[{ accessFlags := 24, nameIndex := 28, descriptorIndex := 29, attributes := #[] }, { accessFlags := 26, nameIndex := 38, descriptorIndex := 39, attributes := #[] }, { accessFlags := 25, nameIndex := 121, descriptorIndex := 25, attributes := #[] }, { accessFlags := 25, nameIndex := 131, descriptorIndex := 25, attributes := #[] }, { accessFlags := 25, nameIndex := 137, descriptorIndex := 25, attributes := #[] }, { accessFlags := 25, nameIndex := 143, descriptorIndex := 25, attributes := #[] }, { accessFlags := 25, nameIndex := 53, descriptorIndex := 25, attributes := #[] }, { accessFlags := 25, nameIndex := 24, descriptorIndex := 25, attributes := #[] }, { accessFlags := 25, nameIndex := 162, descriptorIndex := 25, attributes := #[] }, { accessFlags := 25, nameIndex := 187, descriptorIndex := 25, attributes := #[] }, { accessFlags := 26, nameIndex := 48, descriptorIndex := 25, attributes := #[] }, { accessFlags := 25, nameIndex := 277, descriptorIndex := 25, attributes := #[] }, { accessFlags := 25, nameIndex := 280, descriptorIndex := 25, attributes := #[] }, { accessFlags := 25, nameIndex := 282, descriptorIndex := 25, attributes := #[] }, { accessFlags := 25, nameIndex := 284, descriptorIndex := 25, attributes := #[] }, { accessFlags := 25, nameIndex := 286, descriptorIndex := 25, attributes := #[] }, { accessFlags := 25, nameIndex := 288, descriptorIndex := 25, attributes := #[] }, { accessFlags := 25, nameIndex := 290, descriptorIndex := 25, attributes := #[] }, { accessFlags := 25, nameIndex := 292, descriptorIndex := 25, attributes := #[] }, { accessFlags := 26, nameIndex := 108, descriptorIndex := 109, attributes := #[] }, { accessFlags := 25, nameIndex := 294, descriptorIndex := 25, attributes := #[] }])
  fields := #[{ name := "U", type := (.object "jdk/internal/misc/Unsafe"), accessFlags := 24, slot := 0, constantValue := 0 }, { name := "BIG_ENDIAN", type := .boolean, accessFlags := 26, slot := 1, constantValue := 0 }, { name := "LOG2_ARRAY_BOOLEAN_INDEX_SCALE", type := .int, accessFlags := 25, slot := 2, constantValue := 0 }, { name := "LOG2_ARRAY_BYTE_INDEX_SCALE", type := .int, accessFlags := 25, slot := 3, constantValue := 0 }, { name := "LOG2_ARRAY_CHAR_INDEX_SCALE", type := .int, accessFlags := 25, slot := 4, constantValue := 0 }, { name := "LOG2_ARRAY_SHORT_INDEX_SCALE", type := .int, accessFlags := 25, slot := 5, constantValue := 0 }, { name := "LOG2_ARRAY_INT_INDEX_SCALE", type := .int, accessFlags := 25, slot := 6, constantValue := 0 }, { name := "LOG2_ARRAY_LONG_INDEX_SCALE", type := .int, accessFlags := 25, slot := 7, constantValue := 0 }, { name := "LOG2_ARRAY_FLOAT_INDEX_SCALE", type := .int, accessFlags := 25, slot := 8, constantValue := 0 }, { name := "LOG2_ARRAY_DOUBLE_INDEX_SCALE", type := .int, accessFlags := 25, slot := 9, constantValue := 0 }, { name := "LOG2_BYTE_BIT_SIZE", type := .int, accessFlags := 26, slot := 10, constantValue := 0 }, { name := "T_BOOLEAN", type := .int, accessFlags := 25, slot := 11, constantValue := 0 }, { name := "T_CHAR", type := .int, accessFlags := 25, slot := 12, constantValue := 0 }, { name := "T_FLOAT", type := .int, accessFlags := 25, slot := 13, constantValue := 0 }, { name := "T_DOUBLE", type := .int, accessFlags := 25, slot := 14, constantValue := 0 }, { name := "T_BYTE", type := .int, accessFlags := 25, slot := 15, constantValue := 0 }, { name := "T_SHORT", type := .int, accessFlags := 25, slot := 16, constantValue := 0 }, { name := "T_INT", type := .int, accessFlags := 25, slot := 17, constantValue := 0 }, { name := "T_LONG", type := .int, accessFlags := 25, slot := 18, constantValue := 0 }, { name := "JLA", type := (.object "jdk/internal/access/JavaLangAccess"), accessFlags := 26, slot := 19, constantValue := 0 }, { name := "SOFT_MAX_ARRAY_LENGTH", type := .int, accessFlags := 25, slot := 20, constantValue := 0 }]
  methods := #[k14m0]
  instanceTypes := #[]
  staticTypes := #[(.object "jdk/internal/misc/Unsafe"), .boolean, .int, .int, .int, .int, .int, .int, .int, .int, .int, .int, .int, .int, .int, .int, .int, .int, .int, (.object "jdk/internal/access/JavaLangAccess"), .int]
  resolved := Array.replicate 378 none
  statics := none }

def pool15 : Array CpInfo := pool [(1, u "java/lang/Cloneable"), (0, .class_ 1), (0, u "java/lang/Object"), (0, .class_ 3)] 3

/-- java/lang/Cloneable -/
def k15 : Class := { plain "java/lang/Cloneable" (some 0) with
  accessFlags := 1537
  interfaces := #[]
  cf := some (fileOf pool15 2 #[] #[] 1537 4 #[] #[])
  fields := #[]
  methods := #[]
  instanceTypes := #[]
  staticTypes := #[]
  resolved := Array.replicate 8 none
  statics := none }

/-- the primitive byte -/
def k16 : Class := { plain "byte" none with kind := .primitive 'B', accessFlags := 0x411 }
/-- [B -/
def k17 : Class := { plain "[B" (some 0) with kind := .array 16 .byte, interfaces := #[15, 2], accessFlags := 1041 }

/-- the primitive char -/
def k18 : Class := { plain "char" none with kind := .primitive 'C', accessFlags := 0x411 }
/-- [C -/
def k19 : Class := { plain "[C" (some 0) with kind := .array 18 .char, interfaces := #[15, 2], accessFlags := 1041 }

/-- the primitive int -/
def k20 : Class := { plain "int" none with kind := .primitive 'I', accessFlags := 0x411 }
/-- [I -/
def k21 : Class := { plain "[I" (some 0) with kind := .array 20 .int, interfaces := #[15, 2], accessFlags := 1041 }

def heap : Heap := #[{ cls := 7, slots := #[.long 0, .int 1, .null, .int 0, .null, .int 0, .int 0], vm := .statics 7 },
  { cls := 11, slots := #[.ref 3, .null, .null, .ref 4, .null, .ref 6, .ref 5, .null, .null, .null, .null, .null, .null, .null, .null, .null, .null, .null, .null, .null, .null, .null, .null, .null, .null, .null], vm := .statics 11 },
  { cls := 13, slots := #[.null, .null, .null], vm := .statics 13 },
  { cls := 11, slots := #[.null, .int 0, .int 0, .null, .null], vm := .none },
  { cls := 11, slots := #[.null, .int 3, .int 0, .null, .null], vm := .none },
  { cls := 11, slots := #[.null, .int 6, .int 0, .null, .null], vm := .none },
  { cls := 11, slots := #[.null, .int 5, .int 0, .null, .null], vm := .none }]
def classes : Array Class := #[k0, k1, k2, k3, k4, k5, k6, k7, k8, k9, k10, k11, k12, k13, k14, k15, k16, k17, k18, k19, k20, k21]
def interned : List (Array UInt16 × Addr) := []
def slotsUsed : Nat := 56
def theMethod : MethodId := ⟨1, 3⟩
def args0 : Array Value := #[.int 5, .int 6, .int 7, .int 8, .int 9, .int 10]
def aboutOver (below : List Frame) : State where
  vm := { classes := classes, interned := interned.toArray }
  heap := heap
  slotsUsed := slotsUsed
  threads := #[{ frames := .invoking theMethod args0 :: below }]
def below0 : List Frame := [.native { method := ⟨0, 0⟩, args := #[] }]
def about1 : State := aboutOver below0
def p0 : Program := .bare "" "" ""
def e0 : Env := launch0.env 0 0 0
theorem w_frames : about1.frames = Frame.invoking theMethod args0 :: below0 := rfl
set_option maxRecDepth 65536 in
theorem w_args : argsFit about1.vm theMethod args0 = true := by decide +kernel
set_option maxRecDepth 65536 in
theorem w_heap : heapFits about1 = true := by decide +kernel
set_option maxRecDepth 65536 in
theorem w_runnable : about1.curStatus? = some .runnable := by decide +kernel
set_option maxRecDepth 65536 in
theorem w_alone : about1.alone = true := by decide +kernel
set_option maxRecDepth 65536 in
theorem w_named : about1.methodNamed? x = some theMethod := by decide +kernel
set_option maxRecDepth 65536 in
theorem w_hears : about1.hears theMethod below0 = true := by decide +kernel
set_option maxRecDepth 65536 in
theorem w_ripe : about1.ripe theMethod args0 below0 = true := by decide +kernel
theorem w_running : about1.status = .running := rfl
set_option maxRecDepth 65536 in
theorem w_room : about1.hasRoom e0.platform room_1 = true :=
  launch0.hasRoom_least _ room_1 (by decide +kernel) (by decide +kernel) (by decide +kernel) (by decide +kernel) (by decide +kernel) (by decide +kernel)
theorem allAtoms_all (ts : List Jvm.Cond) (a : Array Jvm.Value) (st : Jvm.State) : (allAtoms ts).before a st = ts.all (fun c => c.before a st) := by
  induction ts with
  | nil => rfl
  | cons c t ih =>
    show (Jvm.Cond.and c (allAtoms t)).before a st = _
    rw [Jvm.Cond.before_and, ih, List.all_cons]
def words1 : List Jvm.Cond := Jvm.Cond.code x code maxLocals ret :: tables_1
/-- a 'code' word, met by the world's own term for the bytes: nothing is compared byte by byte -/
theorem code_word {y : MethodName} {bytes : ByteArray} {mx : Nat} {rt : Option FieldType} {a : Array Value} {s : State} {m : MethodId} {meth : Method} {c : Code} (h1 : s.methodNamed? y = some m) (h2 : s.vm.method? m = some meth) (h3 : meth.code = some c) (h4 : c.code = bytes)
    (h5 : (c.maxLocals == mx && c.exceptionTable.isEmpty && decide (c.maxStack ≤ mostOperands) && decide (meth.sig.returnType = rt) && !meth.locks && decide (parseMethodDescriptor y.desc = some meth.sig)) = true) : (Jvm.Cond.code y bytes mx rt).before a s = true := by
  simp only [Bool.and_eq_true, beq_iff_eq, Bool.not_eq_true', decide_eq_true_eq] at h5
  obtain ⟨⟨⟨⟨⟨g1, g2⟩, g3⟩, g4⟩, g5⟩, g6⟩ := h5
  simp [Cond.before, Cond.holds, Cond.value, h1, h2, h3, h4, g1, g2, g3, g4, g5, g6]
def isCode : Jvm.Cond → Bool
  | .code _ _ _ _ => true
  | _ => false
theorem all_split {L : List Jvm.Cond} {P : Jvm.Cond → Bool} (h1 : L.all (fun c => isCode c || P c) = true) (h2 : ∀ c ∈ L.filter isCode, P c = true) : L.all P = true := by
  refine List.all_eq_true.mpr fun c hc => ?_
  have h := List.all_eq_true.mp h1 c hc
  rcases Bool.eq_false_or_eq_true (isCode c) with hi | hi
  · exact h2 c (List.mem_filter.mpr ⟨hc, hi⟩)
  · simpa [hi] using h
set_option maxRecDepth 65536 in
theorem w_c0 : (Jvm.Cond.code x code maxLocals ret).before args0 about1 = true := code_word (m := ⟨1, 3⟩) (meth := k1m3) (c := k1c3) (by decide +kernel) rfl rfl rfl (by decide +kernel)
set_option maxRecDepth 65536 in
theorem w_c1 : (Jvm.Cond.code ({ cls := "com/example/fair_witness/fairwitness/verifier/DecodingFailureEqualsPinLaw", name := "text", desc := "(ZCC)Ljava/lang/String;" } : Jvm.MethodName) method_3_code (3 : Nat) (Option.some (Jvm.ClassFile.FieldType.object "java/lang/String"))).before args0 about1 = true := code_word (m := ⟨1, 2⟩) (meth := k1m2) (c := k1c2) (by decide +kernel) rfl rfl rfl (by decide +kernel)
set_option maxRecDepth 65536 in
theorem w_c2 : (Jvm.Cond.code ({ cls := "java/lang/String", name := "<init>", desc := "([C)V" } : Jvm.MethodName) jdk_42_method_3_code (2 : Nat) (Option.none : Option Jvm.ClassFile.FieldType)).before args0 about1 = true := code_word (m := ⟨7, 1⟩) (meth := k7m1) (c := k7c1) (by decide +kernel) rfl rfl rfl (by decide +kernel)
set_option maxRecDepth 65536 in
theorem w_c3 : (Jvm.Cond.code ({ cls := "java/lang/String", name := "<init>", desc := "([CIILjava/lang/Void;)V" } : Jvm.MethodName) jdk_42_method_149_code (6 : Nat) (Option.none : Option Jvm.ClassFile.FieldType)).before args0 about1 = true := code_word (m := ⟨7, 4⟩) (meth := k7m4) (c := k7c4) (by decide +kernel) rfl rfl rfl (by decide +kernel)
set_option maxRecDepth 65536 in
theorem w_c4 : (Jvm.Cond.code ({ cls := "java/lang/Object", name := "<init>", desc := "()V" } : Jvm.MethodName) object_method_1_code (1 : Nat) (Option.none : Option Jvm.ClassFile.FieldType)).before args0 about1 = true := code_word (m := ⟨0, 0⟩) (meth := k0m0) (c := k0c0) (by decide +kernel) rfl rfl rfl (by decide +kernel)
set_option maxRecDepth 65536 in
theorem w_c5 : (Jvm.Cond.code ({ cls := "java/lang/StringUTF16", name := "compress", desc := "([CII)[B" } : Jvm.MethodName) jdk_52_method_16_code (6 : Nat) (Option.some (Jvm.ClassFile.FieldType.array Jvm.ClassFile.FieldType.byte))).before args0 about1 = true := code_word (m := ⟨8, 2⟩) (meth := k8m2) (c := k8c2) (by decide +kernel) rfl rfl rfl (by decide +kernel)
set_option maxRecDepth 65536 in
theorem w_c6 : (Jvm.Cond.code ({ cls := "java/lang/StringUTF16", name := "compress", desc := "([CI[BII)I" } : Jvm.MethodName) jdk_52_method_21_code (7 : Nat) (Option.some Jvm.ClassFile.FieldType.int)).before args0 about1 = true := code_word (m := ⟨8, 3⟩) (meth := k8m3) (c := k8c3) (by decide +kernel) rfl rfl rfl (by decide +kernel)
set_option maxRecDepth 65536 in
theorem w_c7 : (Jvm.Cond.code ({ cls := "java/lang/StringUTF16", name := "coderFromArrayLen", desc := "([BI)B" } : Jvm.MethodName) jdk_52_method_15_code (2 : Nat) (Option.some Jvm.ClassFile.FieldType.byte)).before args0 about1 = true := code_word (m := ⟨8, 1⟩) (meth := k8m1) (c := k8c1) (by decide +kernel) rfl rfl rfl (by decide +kernel)
set_option maxRecDepth 65536 in
theorem w_c8 : (Jvm.Cond.code ({ cls := "com/example/fair_witness/fairwitness/verifier/DecodingFailureEqualsPinLaw", name := "reason", desc := "(I)Lcom/example/fair_witness/fairwitness/verifier/Reason;" } : Jvm.MethodName) method_2_code (1 : Nat) (Option.some (Jvm.ClassFile.FieldType.object "com/example/fair_witness/fairwitness/verifier/Reason"))).before args0 about1 = true := code_word (m := ⟨1, 1⟩) (meth := k1m1) (c := k1c1) (by decide +kernel) rfl rfl rfl (by decide +kernel)
set_option maxRecDepth 65536 in
theorem w_c9 : (Jvm.Cond.code ({ cls := "com/example/fair_witness/fairwitness/verifier/DecodingFailure", name := "<init>", desc := "(Lcom/example/fair_witness/fairwitness/verifier/Reason;ILjava/lang/String;)V" } : Jvm.MethodName) prog_25_method_1_code (4 : Nat) (Option.none : Option Jvm.ClassFile.FieldType)).before args0 about1 = true := code_word (m := ⟨9, 0⟩) (meth := k9m0) (c := k9c0) (by decide +kernel) rfl rfl rfl (by decide +kernel)
set_option maxRecDepth 65536 in
theorem w_c10 : (Jvm.Cond.code ({ cls := "com/example/fair_witness/fairwitness/verifier/DecodingFailure", name := "equals", desc := "(Ljava/lang/Object;)Z" } : Jvm.MethodName) prog_25_method_5_code (3 : Nat) (Option.some Jvm.ClassFile.FieldType.boolean)).before args0 about1 = true := code_word (m := ⟨9, 1⟩) (meth := k9m1) (c := k9c1) (by decide +kernel) rfl rfl rfl (by decide +kernel)
set_option maxRecDepth 65536 in
theorem w_c11 : (Jvm.Cond.code ({ cls := "java/lang/String", name := "valueOf", desc := "(C)Ljava/lang/String;" } : Jvm.MethodName) jdk_42_method_139_code (1 : Nat) (Option.some (Jvm.ClassFile.FieldType.object "java/lang/String"))).before args0 about1 = true := code_word (m := ⟨7, 3⟩) (meth := k7m3) (c := k7c3) (by decide +kernel) rfl rfl rfl (by decide +kernel)
set_option maxRecDepth 65536 in
theorem w_c12 : (Jvm.Cond.code ({ cls := "java/lang/StringLatin1", name := "canEncode", desc := "(C)Z" } : Jvm.MethodName) jdk_43_method_3_code (1 : Nat) (Option.some Jvm.ClassFile.FieldType.boolean)).before args0 about1 = true := code_word (m := ⟨12, 1⟩) (meth := k12m1) (c := k12c1) (by decide +kernel) rfl rfl rfl (by decide +kernel)
set_option maxRecDepth 65536 in
theorem w_c13 : (Jvm.Cond.code ({ cls := "java/lang/StringLatin1", name := "toBytes", desc := "(C)[B" } : Jvm.MethodName) jdk_43_method_46_code (1 : Nat) (Option.some (Jvm.ClassFile.FieldType.array Jvm.ClassFile.FieldType.byte))).before args0 about1 = true := code_word (m := ⟨12, 3⟩) (meth := k12m3) (c := k12c3) (by decide +kernel) rfl rfl rfl (by decide +kernel)
set_option maxRecDepth 65536 in
theorem w_c14 : (Jvm.Cond.code ({ cls := "java/lang/String", name := "<init>", desc := "([BB)V" } : Jvm.MethodName) jdk_42_method_151_code (3 : Nat) (Option.none : Option Jvm.ClassFile.FieldType)).before args0 about1 = true := code_word (m := ⟨7, 5⟩) (meth := k7m5) (c := k7c5) (by decide +kernel) rfl rfl rfl (by decide +kernel)
set_option maxRecDepth 65536 in
theorem w_c15 : (Jvm.Cond.code ({ cls := "java/lang/String", name := "equals", desc := "(Ljava/lang/Object;)Z" } : Jvm.MethodName) jdk_42_method_66_code (3 : Nat) (Option.some Jvm.ClassFile.FieldType.boolean)).before args0 about1 = true := code_word (m := ⟨7, 2⟩) (meth := k7m2) (c := k7c2) (by decide +kernel) rfl rfl rfl (by decide +kernel)
set_option maxRecDepth 65536 in
theorem w_c16 : (Jvm.Cond.code ({ cls := "java/lang/StringLatin1", name := "equals", desc := "([B[B)Z" } : Jvm.MethodName) jdk_43_method_13_code (3 : Nat) (Option.some Jvm.ClassFile.FieldType.boolean)).before args0 about1 = true := code_word (m := ⟨12, 2⟩) (meth := k12m2) (c := k12c2) (by decide +kernel) rfl rfl rfl (by decide +kernel)
def codes1 : List Jvm.Cond := [Jvm.Cond.code x code maxLocals ret, Jvm.Cond.code ({ cls := "com/example/fair_witness/fairwitness/verifier/DecodingFailureEqualsPinLaw", name := "text", desc := "(ZCC)Ljava/lang/String;" } : Jvm.MethodName) method_3_code (3 : Nat) (Option.some (Jvm.ClassFile.FieldType.object "java/lang/String")), Jvm.Cond.code ({ cls := "java/lang/String", name := "<init>", desc := "([C)V" } : Jvm.MethodName) jdk_42_method_3_code (2 : Nat) (Option.none : Option Jvm.ClassFile.FieldType), Jvm.Cond.code ({ cls := "java/lang/String", name := "<init>", desc := "([CIILjava/lang/Void;)V" } : Jvm.MethodName) jdk_42_method_149_code (6 : Nat) (Option.none : Option Jvm.ClassFile.FieldType), Jvm.Cond.code ({ cls := "java/lang/Object", name := "<init>", desc := "()V" } : Jvm.MethodName) object_method_1_code (1 : Nat) (Option.none : Option Jvm.ClassFile.FieldType), Jvm.Cond.code ({ cls := "java/lang/StringUTF16", name := "compress", desc := "([CII)[B" } : Jvm.MethodName) jdk_52_method_16_code (6 : Nat) (Option.some (Jvm.ClassFile.FieldType.array Jvm.ClassFile.FieldType.byte)), Jvm.Cond.code ({ cls := "java/lang/StringUTF16", name := "compress", desc := "([CI[BII)I" } : Jvm.MethodName) jdk_52_method_21_code (7 : Nat) (Option.some Jvm.ClassFile.FieldType.int), Jvm.Cond.code ({ cls := "java/lang/StringUTF16", name := "coderFromArrayLen", desc := "([BI)B" } : Jvm.MethodName) jdk_52_method_15_code (2 : Nat) (Option.some Jvm.ClassFile.FieldType.byte), Jvm.Cond.code ({ cls := "com/example/fair_witness/fairwitness/verifier/DecodingFailureEqualsPinLaw", name := "reason", desc := "(I)Lcom/example/fair_witness/fairwitness/verifier/Reason;" } : Jvm.MethodName) method_2_code (1 : Nat) (Option.some (Jvm.ClassFile.FieldType.object "com/example/fair_witness/fairwitness/verifier/Reason")), Jvm.Cond.code ({ cls := "com/example/fair_witness/fairwitness/verifier/DecodingFailure", name := "<init>", desc := "(Lcom/example/fair_witness/fairwitness/verifier/Reason;ILjava/lang/String;)V" } : Jvm.MethodName) prog_25_method_1_code (4 : Nat) (Option.none : Option Jvm.ClassFile.FieldType), Jvm.Cond.code ({ cls := "com/example/fair_witness/fairwitness/verifier/DecodingFailure", name := "equals", desc := "(Ljava/lang/Object;)Z" } : Jvm.MethodName) prog_25_method_5_code (3 : Nat) (Option.some Jvm.ClassFile.FieldType.boolean), Jvm.Cond.code ({ cls := "java/lang/String", name := "valueOf", desc := "(C)Ljava/lang/String;" } : Jvm.MethodName) jdk_42_method_139_code (1 : Nat) (Option.some (Jvm.ClassFile.FieldType.object "java/lang/String")), Jvm.Cond.code ({ cls := "java/lang/StringLatin1", name := "canEncode", desc := "(C)Z" } : Jvm.MethodName) jdk_43_method_3_code (1 : Nat) (Option.some Jvm.ClassFile.FieldType.boolean), Jvm.Cond.code ({ cls := "java/lang/StringLatin1", name := "toBytes", desc := "(C)[B" } : Jvm.MethodName) jdk_43_method_46_code (1 : Nat) (Option.some (Jvm.ClassFile.FieldType.array Jvm.ClassFile.FieldType.byte)), Jvm.Cond.code ({ cls := "java/lang/String", name := "<init>", desc := "([BB)V" } : Jvm.MethodName) jdk_42_method_151_code (3 : Nat) (Option.none : Option Jvm.ClassFile.FieldType), Jvm.Cond.code ({ cls := "java/lang/String", name := "equals", desc := "(Ljava/lang/Object;)Z" } : Jvm.MethodName) jdk_42_method_66_code (3 : Nat) (Option.some Jvm.ClassFile.FieldType.boolean), Jvm.Cond.code ({ cls := "java/lang/StringLatin1", name := "equals", desc := "([B[B)Z" } : Jvm.MethodName) jdk_43_method_13_code (3 : Nat) (Option.some Jvm.ClassFile.FieldType.boolean)]
set_option maxRecDepth 65536 in
theorem codes_eq : words1.filter isCode = codes1 := rfl
theorem w_codes : ∀ c ∈ words1.filter isCode, c.before args0 about1 = true := by
  rw [codes_eq]
  intro c hc
  simp only [codes1, List.mem_cons, List.not_mem_nil, or_false] at hc
  rcases hc with rfl | rfl | rfl | rfl | rfl | rfl | rfl | rfl | rfl | rfl | rfl | rfl | rfl | rfl | rfl | rfl | rfl
  · exact w_c0
  · exact w_c1
  · exact w_c2
  · exact w_c3
  · exact w_c4
  · exact w_c5
  · exact w_c6
  · exact w_c7
  · exact w_c8
  · exact w_c9
  · exact w_c10
  · exact w_c11
  · exact w_c12
  · exact w_c13
  · exact w_c14
  · exact w_c15
  · exact w_c16
set_option maxRecDepth 65536 in
theorem w_t1 : (words1.take 24).all (fun c => isCode c || c.before args0 about1) = true := by decide +kernel
set_option maxRecDepth 65536 in
theorem w_t2 : ((words1.drop 24).take 24).all (fun c => isCode c || c.before args0 about1) = true := by decide +kernel
set_option maxRecDepth 65536 in
theorem w_t3 : (((words1.drop 24).drop 24).take 24).all (fun c => isCode c || c.before args0 about1) = true := by decide +kernel
set_option maxRecDepth 65536 in
theorem w_t4 : (((words1.drop 24).drop 24).drop 24).all (fun c => isCode c || c.before args0 about1) = true := by decide +kernel
theorem w_tables : (allAtoms (Jvm.Cond.code x code maxLocals ret :: tables_1)).before args0 about1 = true := by
  rw [allAtoms_all]
  show words1.all (fun c => c.before args0 about1) = true
  refine all_split ?_ w_codes
  rw [← List.take_append_drop 24 words1, List.all_append, w_t1, ← List.take_append_drop 24 (words1.drop 24), List.all_append, w_t2, ← List.take_append_drop 24 ((words1.drop 24).drop 24), List.all_append, w_t3, w_t4]
  rfl
set_option maxRecDepth 65536 in
theorem w_rest : rest_1_c.before args0 about1 = true := by decide +kernel
set_option maxRecDepth 65536 in
theorem w_case : (Jvm.Cond.and given_1 narrow_1).before args0 about1 = true := by decide +kernel
theorem w_applies : (headSpec (Jvm.Cond.code x code maxLocals ret :: tables_1) room_1).applies x e0.platform about1 = true :=
  (Spec.applies_iff w_frames).mpr ⟨w_running, w_runnable, w_alone, w_named, w_hears, w_ripe, w_room, w_tables⟩
theorem atStart : AtStart classFile x code maxLocals ret World_1 tables_1 room_1 Calls_1 rest_1 Pre_1 launch0 p0 e0 about1 theMethod args0 below0 :=
  ⟨lists_1, trivial, launch0.admits_env _ _ _, launch0.least_env, fairChoices_fair.cas, fairChoices_fair.clock, w_frames, w_args, w_heap, w_applies, trivial, w_rest, w_case⟩
end start1
theorem witness_1 : WitnessClaimed_1 := ⟨start1.p0, start1.e0, start1.about1, start1.theMethod, start1.args0, start1.below0, start1.atStart⟩
end Jvm.Pilot.@@N@@
