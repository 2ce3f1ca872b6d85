import JvmDerived
import JvmDerived.Pilot.@@N@@Statement
import JvmDerived.Pilot.@@N@@Code
set_option linter.unusedVariables false
set_option linter.unusedSimpArgs false
namespace Jvm.RoadKit
open Sem ClassFile Op Lib Jvm.Stand Jvm.Free Jvm.LawKit
section New
variable {p : Program} {l : Launch} {e : Env} {R : Room} {s : State} {m : MethodId} {args : Array Value} {below : List Frame} {meth : Method} {c : Code} {T : State} {locs : List Loc} {cells slots : Nat}
theorem retI (X : Stand p l e R s m args below meth c T locs cells slots) (hx : p.tables.exec = Jvm.exec) {pc : Nat} {Ls : Array Slot} {z : Int32} {rest : List Value} (hret : meth.sig.returnType = some .int) (hd : decode c.code pc = .ok (.ireturn, 1)) {fs : List Frame}
    (hl : ∀ (f : JFrame) (acts : List Action), f.method = m → f.locked = none → f.entered = [] → (doReturn e (T.setTop f) acts (some (.int z))).1 = T.setFrames fs) : Steps p.tables e below (T.setTop (mkF m pc Ls (.int z :: rest))) (T.setFrames fs) := by
  have hm' : T.vm.method? m = some meth := X.method'
  have hn : narrow .int (.int z) = .int z := rfl
  show Steps p.tables e below (T.setTop { method := m, pc := pc, locals := Ls, stack := _ :: rest, locked := none }) _
  jvm_step X.here [X.here.top, hx, hd, hm', hret, hn]
  first | (intro acts; rw [hl _ acts rfl rfl rfl]) | rw [hl _ _ rfl rfl rfl]
  exact Steps.refl _
end New
end Jvm.RoadKit

namespace Jvm.Pilot.@@N@@
open Jvm Jvm.ClassFile Sem Op Lib Jvm.Free Jvm.Stand Jvm.LawKit Jvm.RoadKit Bundle Jvm.Pilot.@@N@@.Jvm.D
def own_mask (bits : Int32) : Int32 := if bits = (0 : Int32) then 0 else ((-1 : Int32) <<< (((32 : Int32) - bits) &&& 31))
def own_c (a bits o : Int32) : Int32 := if bits = (0 : Int32) then (if (a &&& (0 : Int32)) = (o &&& (0 : Int32)) then 1 else 0) else (if (a &&& ((-1 : Int32) <<< (((32 : Int32) - bits) &&& 31))) = (o &&& ((-1 : Int32) <<< (((32 : Int32) - bits) &&& 31))) then 1 else 0)
theorem own_ce (a bits o : Int32) : own_c a bits o = if (a &&& own_mask bits) = (o &&& own_mask bits) then 1 else 0 := by
  unfold own_c own_mask
  by_cases h : bits = (0 : Int32)
  · rw [if_pos h, if_pos h]
  · rw [if_neg h, if_neg h]
theorem own_rem (b : Int32) : 0 ≤ ((b &&& (2147483647 : Int32)) % (33 : Int32)).toInt ∧ ((b &&& (2147483647 : Int32)) % (33 : Int32)).toInt ≤ 32 := by
  have h1 := c_mask b 2147483647 31 (by decide) (by decide)
  have h2 := (c_irem (b &&& 2147483647) 33 33 (by decide)).1 (by omega)
  rw [h2]; omega
theorem own_nat (a : Int32) : a.toInt % 4294967296 = (a.toBitVec.toNat : Int) := by
  have h : a.toInt = a.toBitVec.toInt := rfl
  rw [h, BitVec.toInt_eq_toNat_cond]
  have := a.toBitVec.isLt
  split <;> omega
theorem own_bv (A B : BitVec 32) (k : Nat) : (A &&& (BitVec.allOnes 32 <<< k)) = (B &&& (BitVec.allOnes 32 <<< k)) ↔ A.toNat / 2 ^ k = B.toNat / 2 ^ k := by
  have e : ∀ X : BitVec 32, X.toNat / 2 ^ k = (X >>> k).toNat := fun X => by rw [BitVec.toNat_ushiftRight, Nat.shiftRight_eq_div_pow]
  rw [e, e, BitVec.toNat_inj]
  constructor
  · intro h
    apply BitVec.eq_of_getLsbD_eq
    intro i hi
    rw [BitVec.getLsbD_ushiftRight, BitVec.getLsbD_ushiftRight]
    have h2 := congrArg (fun X : BitVec 32 => X.getLsbD (k + i)) h
    simp only [BitVec.getLsbD_and, BitVec.getLsbD_shiftLeft, BitVec.getLsbD_allOnes] at h2
    by_cases q : k + i < 32
    · simpa [q, hi, show ¬ (k + i < k) by omega] using h2
    · rw [BitVec.getLsbD_of_ge _ _ (by omega), BitVec.getLsbD_of_ge _ _ (by omega)]
  · intro h
    apply BitVec.eq_of_getLsbD_eq
    intro i hi
    simp only [BitVec.getLsbD_and, BitVec.getLsbD_shiftLeft, BitVec.getLsbD_allOnes]
    by_cases q : i < k
    · simp [q]
    · have h2 := congrArg (fun X : BitVec 32 => X.getLsbD (i - k)) h
      simp only [BitVec.getLsbD_ushiftRight] at h2
      rw [show k + (i - k) = i by omega] at h2
      rw [h2]
theorem own_zero (X : Int64) (q : Int32) (hq : (q &&& 0x3f).toInt64.toUInt64 = 0) : ((X.toUInt64 >>> (q &&& 0x3f).toInt64.toUInt64).toInt64) = X := by
  rw [hq]; simp
theorem own_ushr (a q : Int32) (k : Nat) (hk : k ≤ 32) (hq : q.toBitVec.toNat = k) : (((a.toInt64 &&& (4294967295 : Int64)).toUInt64 >>> (q &&& 0x3f).toInt64.toUInt64).toInt64).toInt = ((a.toBitVec.toNat / 2 ^ k : Nat) : Int) := by
  have m := c_maskL a.toInt64 4294967295 32 (by decide) (by decide)
  rw [c_i2l] at m
  have n := own_nat a
  have lt := a.toBitVec.isLt
  by_cases k0 : k = 0
  · subst k0
    have q0 : q = 0 := by
      apply Int32.toBitVec_inj.mp
      apply BitVec.eq_of_toNat_eq
      rw [hq]; rfl
    subst q0
    rw [own_zero _ _ (by decide), m]
    simp only [Nat.pow_zero, Nat.div_one]
    omega
  · rw [c_lushr _ q k (by rw [hq]; omega) (by omega), m]
    have e1 : a.toInt % ((2 ^ 32 : Nat) : Int) % 18446744073709551616 = (a.toBitVec.toNat : Int) := by
      have : ((2 ^ 32 : Nat) : Int) = 4294967296 := by decide
      rw [this]; omega
    rw [e1]; simp
theorem own_main (a o bits : Int32) (hb : 0 ≤ bits.toInt ∧ bits.toInt ≤ 32) : own_c a bits o = if (lcmpW ((((a.toInt64) &&& (4294967295 : Int64)).toUInt64 >>> (((32 : Int32) - bits) &&& 0x3f).toInt64.toUInt64).toInt64) ((((o.toInt64) &&& (4294967295 : Int64)).toUInt64 >>> (((32 : Int32) - bits) &&& 0x3f).toInt64.toUInt64).toInt64)) = (0 : Int32) then 1 else 0 := by
  have s1 := c_isub 32 bits
  have z : (32 : Int32).toInt = 32 := by decide
  rw [z] at s1
  have r1 := rng32 ((32 : Int32) - bits)
  have s2 : ((32 : Int32) - bits).toInt = 32 - bits.toInt := by omega
  have s3 := own_nat ((32 : Int32) - bits)
  have s4 := own_nat bits
  have k0 : ((32 : Int32) - bits).toBitVec.toNat = 32 - bits.toBitVec.toNat ∧ bits.toBitVec.toNat ≤ 32 ∧ (bits.toBitVec.toNat : Int) = bits.toInt := by omega
  obtain ⟨k1, k2, k3⟩ := k0
  have hL := lw_eq ((((a.toInt64) &&& (4294967295 : Int64)).toUInt64 >>> (((32 : Int32) - bits) &&& 0x3f).toInt64.toUInt64).toInt64) ((((o.toInt64) &&& (4294967295 : Int64)).toUInt64 >>> (((32 : Int32) - bits) &&& 0x3f).toInt64.toUInt64).toInt64)
  rw [← Int64.toInt_inj, own_ushr a _ _ (by omega) k1, own_ushr o _ _ (by omega) k1] at hL
  have key : (a &&& own_mask bits) = (o &&& own_mask bits) ↔ a.toBitVec.toNat / 2 ^ (32 - bits.toBitVec.toNat) = o.toBitVec.toNat / 2 ^ (32 - bits.toBitVec.toNat) := by
    rw [← own_bv, ← Int32.toBitVec_inj]
    have mk : (own_mask bits).toBitVec = BitVec.allOnes 32 <<< (32 - bits.toBitVec.toNat) := by
      unfold own_mask
      by_cases hz : bits = 0
      · subst hz; decide
      · rw [if_neg hz]
        have hn : bits.toBitVec.toNat ≠ 0 := fun q => hz (Int32.toBitVec_inj.mp (BitVec.eq_of_toNat_eq (by rw [q]; rfl)))
        have sh : ((32 : Int32) - bits).toBitVec.toNat % 32 = 32 - bits.toBitVec.toNat := by omega
        show (-1 : Int32).toBitVec <<< ((((32 : Int32) - bits) &&& 31).toBitVec.smod 32) = _
        have e := sm32 ((32 : Int32) - bits) _ sh
        rw [BitVec.shiftLeft_eq']
        rw [e]; rfl
    rw [Int32.toBitVec_and, Int32.toBitVec_and, mk]
  rw [own_ce]
  by_cases c : (a &&& own_mask bits) = (o &&& own_mask bits)
  · rw [if_pos c, if_pos (hL.mpr (by rw [key.mp c]))]
  · rw [if_neg c, if_neg (fun q => c (key.mpr (Int.ofNat.inj (hL.mp q))))]

theorem pn0 : plainName "java/lang/Record" = true := by first | (simp [plainName, overriddenIn]; done) | decide +kernel
theorem d2_0 : decode jdk_30_method_1_code 0 = .ok (.aload_n 0, 1) := by decide +kernel
theorem d2_1 : decode jdk_30_method_1_code 1 = .ok (.invokespecial 1, 3) := by decide +kernel
theorem d2_4 : decode jdk_30_method_1_code 4 = .ok (.return_, 1) := by decide +kernel
theorem ef_2 (m : MethodId) (x0 : Addr) : entryFrame m #[(.ref x0)] 1 = mkF m 0 #[.val (.ref x0)] [] := by first | (simp [entryFrame, mkF, argsToLocals, Value.category]; done) | rfl
def Q2 (Z : State) (r0 : Addr) (h0 : Heap) (n0 : Nat) (v : Option Value) (h : Heap) (L : List Loc) : Prop := v = none ∧ Fr n0 L ∧ h = h0
set_option maxRecDepth 65536 in
set_option maxHeartbeats 40000000 in
theorem rm2 (l : Launch) (Z : State) (a0 : Array Value) (hw : ∀ d ∈ tables_1, d.before a0 Z = true) (ws : List Jvm.Cond) (r0 : Addr) (h0 : Heap) (n0 : Nat) (Z0 : n0 ≤ h0.size) :
    MetFree l (⟨"java/lang/Record", "<init>", "()V"⟩ : MethodName) (head1 (Jvm.Cond.code (⟨"java/lang/Record", "<init>", "()V"⟩ : MethodName) jdk_30_method_1_code 1 none :: ws) ({ frames := 1, cells := 0, slots := 0, locals := 12 } : Room)) (fun a U => a = #[(.ref r0)] ∧ Z.Warmed39 U.vm ∧ U.heap = h0) (fun _ _ _ _ _ => True) (fun _ U o U' => ∃ v L, o = .returned v ∧ Q2 Z r0 h0 n0 v U'.heap L ∧ FrameEnd U o U' L ({ frames := 1, cells := 0, slots := 0, locals := 12 } : Room).cells ({ frames := 1, cells := 0, slots := 0, locals := 12 } : Room).slots) := by
  refine MetFree.of_bodySF (plainFor_of_name pn0) hisR ?_
  intro p e s m args below meth c s₁ Bd hml0 hP hK
  obtain ⟨rfl, hZ, hh⟩ := hP
  have hx := Bd.exec
  have hby := Bd.bytes
  have hml : c.maxLocals = 1 := hml0
  have hown : s.vm.findClass "java/lang/Record" = some m.cls := findClass_of_methodNamed Bd.named
  have hnm := (name_of_methodNamed Bd.named Bd.method).1
  have X0 : Stand p l e ({ frames := 1, cells := 0, slots := 0, locals := 12 } : Room) s m #[(.ref r0)] below meth c s₁ [] 0 0 := Stand.of_body Bd
  have e0 : s₁.heap = h0 := by rw [← hh, Bd.state]; rfl
  have N0 := Fr.nil n0
  have pre0 : ∀ t, Steps p.tables e below (s₁.setTop (mkF m 0 #[rv r0] [])) t → Steps p.tables e below (s₁.setTop (entryFrame m #[(.ref r0)] 1)) t := fun t k => castTop (ef_2 m r0) k
  have pre1 : ∀ t, Steps p.tables e below (s₁.setTop (mkF m 1 #[rv r0] [(.ref r0)])) t → Steps p.tables e below (s₁.setTop (entryFrame m #[(.ref r0)] 1)) t := by
    intro t kt
    refine pre0 _ ?_
    show Steps p.tables e below (s₁.setTop (mkF m 0 #[rv r0] [])) _
    refine XS.aloadN X0.here hx rfl (hb hby d2_0) rfl rfl ?_
    exact kt
  obtain ⟨T2, X2, e2, st2⟩ := initO X0 hx hZ hown (hw _ (List.mem_of_getElem? (i := 12) rfl)) (hw _ (List.mem_of_getElem? (i := 13) rfl)) (hw _ (List.mem_of_getElem? (i := 14) rfl)) e0 (g := (mkF m 1 #[rv r0] [(.ref r0)])) rfl (by rw [hml]; rfl) rfl (hb hby d2_1) (by decide) (W := 0) (by show 2 * 0 + _ ≤ _; exact Nat.le_of_eq rfl) (by decide)
  have pre3 : ∀ t, Steps p.tables e below (T2.setTop (mkF m 4 #[rv r0] [])) t → Steps p.tables e below (s₁.setTop (entryFrame m #[(.ref r0)] 1)) t := by
    intro t kt
    refine pre1 _ ?_
    show Steps p.tables e below (s₁.setTop (mkF m 1 #[rv r0] [(.ref r0)])) _
    refine st2 _ ?_
    exact kt
  obtain ⟨fs, hr, hrun, hended, hW, hsame⟩ := X2.leave (v := none) (fun _ => rfl)
  refine ⟨_, _, pre3 _ ?_, hrun, hended, _, _, rfl, ?_, ⟨_, rfl⟩, hW, hsame.mono (by decide) (by decide)⟩
  · show Steps p.tables e below (T2.setTop (mkF m 4 #[rv r0] [])) _
    exact X2.returnOut hx Bd.returns (hb hby d2_4) hr
  · show Q2 Z r0 h0 n0 _ T2.heap _
    rw [e2]
    exact ⟨rfl, N0, rfl⟩
theorem pn1 : plainName "com/example/treewarden/treewarden/acl/IpRange" = true := by first | (simp [plainName, overriddenIn]; done) | decide +kernel
theorem d1_0 : decode prog_2_method_1_code 0 = .ok (.aload_n 0, 1) := by decide +kernel
theorem pd2 : parseMethodDescriptor "()V" = some ⟨[], none⟩ := by decide +kernel
theorem d1_1 : decode prog_2_method_1_code 1 = .ok (.invokespecial 1, 3) := by decide +kernel
theorem d1_4 : decode prog_2_method_1_code 4 = .ok (.aload_n 0, 1) := by decide +kernel
theorem d1_5 : decode prog_2_method_1_code 5 = .ok (.iload_n 1, 1) := by decide +kernel
theorem d1_6 : decode prog_2_method_1_code 6 = .ok (.putfield 7, 3) := by decide +kernel
theorem d1_9 : decode prog_2_method_1_code 9 = .ok (.aload_n 0, 1) := by decide +kernel
theorem d1_10 : decode prog_2_method_1_code 10 = .ok (.iload_n 2, 1) := by decide +kernel
theorem d1_11 : decode prog_2_method_1_code 11 = .ok (.putfield 13, 3) := by decide +kernel
theorem d1_14 : decode prog_2_method_1_code 14 = .ok (.return_, 1) := by decide +kernel
theorem ef_1 (m : MethodId) (x0 : Addr) (x1 : Int32) (x2 : Int32) : entryFrame m #[(.ref x0), (.int x1), (.int x2)] 3 = mkF m 0 #[.val (.ref x0), .val (.int x1), .val (.int x2)] [] := by first | (simp [entryFrame, mkF, argsToLocals, Value.category]; done) | rfl
def Q1 (Z : State) (r0 : Addr) (p1 : Int32) (p2 : Int32) (h0 : Heap) (n0 : Nat) (v : Option Value) (h : Heap) (L : List Loc) : Prop := v = none ∧ Fr n0 L ∧ Keep h0 h [r0] ∧ Fld Z h r0 "com/example/treewarden/treewarden/acl/IpRange" "address" "I" (.int p1) ∧ Fld Z h r0 "com/example/treewarden/treewarden/acl/IpRange" "bits" "I" (.int p2)
set_option maxRecDepth 65536 in
set_option maxHeartbeats 40000000 in
theorem rm1 (l : Launch) (Z : State) (a0 : Array Value) (hw : ∀ d ∈ tables_1, d.before a0 Z = true) (ws : List Jvm.Cond) (r0 : Addr) (p1 : Int32) (p2 : Int32) (h0 : Heap) (n0 : Nat) (Z0 : n0 ≤ h0.size) (F_address_r0 : Fld Z h0 r0 "com/example/treewarden/treewarden/acl/IpRange" "address" "I" (.int (0 : Int32))) (F_bits_r0 : Fld Z h0 r0 "com/example/treewarden/treewarden/acl/IpRange" "bits" "I" (.int (0 : Int32))) (E_r0 : Exa Z h0 r0 "com/example/treewarden/treewarden/acl/IpRange") (g_r0 : n0 ≤ r0) :
    MetFree l (⟨"com/example/treewarden/treewarden/acl/IpRange", "<init>", "(II)V"⟩ : MethodName) (head1 (Jvm.Cond.code (⟨"com/example/treewarden/treewarden/acl/IpRange", "<init>", "(II)V"⟩ : MethodName) prog_2_method_1_code 3 none :: ws) ({ frames := 2, cells := 0, slots := 0, locals := 24 } : Room)) (fun a U => a = #[(.ref r0), (.int p1), (.int p2)] ∧ Z.Warmed39 U.vm ∧ U.heap = h0) (fun _ _ _ _ _ => True) (fun _ U o U' => ∃ v L, o = .returned v ∧ Q1 Z r0 p1 p2 h0 n0 v U'.heap L ∧ FrameEnd U o U' L ({ frames := 2, cells := 0, slots := 0, locals := 24 } : Room).cells ({ frames := 2, cells := 0, slots := 0, locals := 24 } : Room).slots) := by
  refine MetFree.of_bodySF (plainFor_of_name pn1) hisR ?_
  intro p e s m args below meth c s₁ Bd hml0 hP hK
  obtain ⟨rfl, hZ, hh⟩ := hP
  have hx := Bd.exec
  have hby := Bd.bytes
  have hml : c.maxLocals = 3 := hml0
  have hown : s.vm.findClass "com/example/treewarden/treewarden/acl/IpRange" = some m.cls := findClass_of_methodNamed Bd.named
  have hnm := (name_of_methodNamed Bd.named Bd.method).1
  have X0 : Stand p l e ({ frames := 2, cells := 0, slots := 0, locals := 24 } : Room) s m #[(.ref r0), (.int p1), (.int p2)] below meth c s₁ [] 0 0 := Stand.of_body Bd
  have e0 : s₁.heap = h0 := by rw [← hh, Bd.state]; rfl
  have N0 := Fr.nil n0
  have pre0 : ∀ t, Steps p.tables e below (s₁.setTop (mkF m 0 #[rv r0, iv p1, iv p2] [])) t → Steps p.tables e below (s₁.setTop (entryFrame m #[(.ref r0), (.int p1), (.int p2)] 3)) t := fun t k => castTop (ef_1 m r0 p1 p2) k
  have pre1 : ∀ t, Steps p.tables e below (s₁.setTop (mkF m 1 #[rv r0, iv p1, iv p2] [(.ref r0)])) t → Steps p.tables e below (s₁.setTop (entryFrame m #[(.ref r0), (.int p1), (.int p2)] 3)) t := by
    intro t kt
    refine pre0 _ ?_
    show Steps p.tables e below (s₁.setTop (mkF m 0 #[rv r0, iv p1, iv p2] [])) _
    refine XS.aloadN X0.here hx rfl (hb hby d1_0) rfl rfl ?_
    exact kt
  obtain ⟨_, _, ⟨T2, L2, k2, n2⟩, -, X2, ⟨Lc2, hQ2, l2, y2, z2⟩, st2⟩ := X0.specialBack hx (y := (⟨"java/lang/Record", "<init>", "()V"⟩ : MethodName)) rfl hown (mvT hZ (hw _ (List.mem_of_getElem? (i := 7) rfl))) (mvT hZ (hw _ (List.mem_of_getElem? (i := 8) rfl))) (mvT hZ (hw _ (List.mem_of_getElem? (i := 11) rfl))) (by decide) (backOf (W := 0) (rm2 l Z a0 hw [] r0 h0 n0 (Nat.le_trans Z0 (Keep.refl h0 [r0]).1)) hZ (hw _ (List.mem_of_getElem? (i := 11) rfl)) (hw _ (List.mem_of_getElem? (i := 10) rfl)) (by decide) (by decide)) (g := (mkF m 1 #[rv r0, iv p1, iv p2] [(.ref r0)])) rfl (by rw [hml]; rfl) (Steps.refl _) (a := r0) (argsL := []) (rest := []) (lenOf pd2 rfl) rfl (by show 2 * 0 + _ ≤ _; exact Nat.le_of_eq rfl) (hb hby d1_1) (fun _ _ => ⟨rfl, e0, (by decide : 0 + 0 ≤ _), (by decide : 0 + 0 ≤ _)⟩)
  dsimp only [Pt.U, Pt.locs, Pt.cells, Pt.slots] at X2 l2 y2 z2 st2 hQ2
  subst l2 y2 z2
  obtain ⟨rfl, N2q, hh2⟩ := hQ2
  have N2 := Fr.app N0 N2q
  have pre3 : ∀ t, Steps p.tables e below (T2.setTop (mkF m 6 #[rv r0, iv p1, iv p2] [(.int p1), (.ref r0)])) t → Steps p.tables e below (s₁.setTop (entryFrame m #[(.ref r0), (.int p1), (.int p2)] 3)) t := by
    intro t kt
    refine pre1 _ ?_
    show Steps p.tables e below (s₁.setTop (mkF m 1 #[rv r0, iv p1, iv p2] [(.ref r0)])) _
    refine st2.trans ?_
    show Steps p.tables e below (T2.setTop (mkF m 4 #[rv r0, iv p1, iv p2] [])) _
    refine XS.aloadN X2.here hx rfl (hb hby d1_4) rfl rfl ?_
    show Steps p.tables e below (T2.setTop (mkF m 5 #[rv r0, iv p1, iv p2] [(.ref r0)])) _
    refine XS.iloadN X2.here hx rfl (hb hby d1_5) rfl ?_
    exact kt
  obtain ⟨T4, h4, X4, e4, W4, st4⟩ := putF X2 hx hZ hown (host := "") (Or.inl (hw _ (List.mem_of_getElem? (i := 15) rfl))) Via.refl hh2 F_address_r0 E_r0 (Or.inr ⟨(hw _ (List.mem_of_getElem? (i := 16) rfl)), rfl, hnm⟩) (hw _ (List.mem_of_getElem? (i := 2) rfl)) (ty := .int) (by decide) rfl rfl (g := (mkF m 6 #[rv r0, iv p1, iv p2] [(.int p1), (.ref r0)])) rfl rfl (hb hby d1_6)
  have Fw4 : Fld Z h4 r0 "com/example/treewarden/treewarden/acl/IpRange" "address" "I" (.int p1) := F_address_r0.same W4
  have K4 : Keep h0 h4 [r0] := (Keep.refl h0 [r0]).wr W4 (Or.inl (List.mem_of_getElem? (i := 0) rfl))
  have N4 := Fr.snoc X4 N2 g_r0
  have pre5 : ∀ t, Steps p.tables e below (T4.setTop (mkF m 11 #[rv r0, iv p1, iv p2] [(.int p2), (.ref r0)])) t → Steps p.tables e below (s₁.setTop (entryFrame m #[(.ref r0), (.int p1), (.int p2)] 3)) t := by
    intro t kt
    refine pre3 _ ?_
    show Steps p.tables e below (T2.setTop (mkF m 6 #[rv r0, iv p1, iv p2] [(.int p1), (.ref r0)])) _
    refine st4 _ ?_
    show Steps p.tables e below (T4.setTop (mkF m 9 #[rv r0, iv p1, iv p2] [])) _
    refine XS.aloadN X4.here hx rfl (hb hby d1_9) rfl rfl ?_
    show Steps p.tables e below (T4.setTop (mkF m 10 #[rv r0, iv p1, iv p2] [(.ref r0)])) _
    refine XS.iloadN X4.here hx rfl (hb hby d1_10) rfl ?_
    exact kt
  obtain ⟨T6, h6, X6, e6, W6, st6⟩ := putF X4 hx hZ hown (host := "") (Or.inl (hw _ (List.mem_of_getElem? (i := 17) rfl))) Via.refl e4 (F_bits_r0.other W4 (Or.inr (slot_ne (Or.inr (hw _ (List.mem_of_getElem? (i := 18) rfl))) (Or.inr (hw _ (List.mem_of_getElem? (i := 16) rfl))) (by decide) (t := .int) (t' := .int) (by decide) (by decide)))) (E_r0.wr W4) (Or.inr ⟨(hw _ (List.mem_of_getElem? (i := 18) rfl)), rfl, hnm⟩) (hw _ (List.mem_of_getElem? (i := 2) rfl)) (ty := .int) (by decide) rfl rfl (g := (mkF m 11 #[rv r0, iv p1, iv p2] [(.int p2), (.ref r0)])) rfl rfl (hb hby d1_11)
  have Fw6 : Fld Z h6 r0 "com/example/treewarden/treewarden/acl/IpRange" "bits" "I" (.int p2) := (F_bits_r0.other W4 (Or.inr (slot_ne (Or.inr (hw _ (List.mem_of_getElem? (i := 18) rfl))) (Or.inr (hw _ (List.mem_of_getElem? (i := 16) rfl))) (by decide) (t := .int) (t' := .int) (by decide) (by decide)))).same W6
  have K6 : Keep h0 h6 [r0] := K4.wr W6 (Or.inl (List.mem_of_getElem? (i := 0) rfl))
  have N6 := Fr.snoc X6 N4 g_r0
  have pre7 : ∀ t, Steps p.tables e below (T6.setTop (mkF m 14 #[rv r0, iv p1, iv p2] [])) t → Steps p.tables e below (s₁.setTop (entryFrame m #[(.ref r0), (.int p1), (.int p2)] 3)) t := by
    intro t kt
    refine pre5 _ ?_
    show Steps p.tables e below (T4.setTop (mkF m 11 #[rv r0, iv p1, iv p2] [(.int p2), (.ref r0)])) _
    refine st6 _ ?_
    exact kt
  obtain ⟨fs, hr, hrun, hended, hW, hsame⟩ := X6.leave (v := none) (fun _ => rfl)
  refine ⟨_, _, pre7 _ ?_, hrun, hended, _, _, rfl, ?_, ⟨_, rfl⟩, hW, hsame.mono (by decide) (by decide)⟩
  · show Steps p.tables e below (T6.setTop (mkF m 14 #[rv r0, iv p1, iv p2] [])) _
    exact X6.returnOut hx Bd.returns (hb hby d1_14) hr
  · show Q1 Z r0 p1 p2 h0 n0 _ T6.heap _
    rw [e6]
    exact ⟨rfl, N6, K6, (Fw4.other W6 (Or.inr (slot_ne (Or.inr (hw _ (List.mem_of_getElem? (i := 16) rfl))) (Or.inr (hw _ (List.mem_of_getElem? (i := 18) rfl))) (by decide) (t := .int) (t' := .int) (by decide) (by decide)))), Fw6⟩
theorem d4_0 : decode prog_2_method_4_code 0 = .ok (.aload_n 0, 1) := by decide +kernel
theorem d4_1 : decode prog_2_method_4_code 1 = .ok (.getfield 13, 3) := by decide +kernel
theorem d4_4 : decode prog_2_method_4_code 4 = .ok (.ifCond .ne 7, 3) := by decide +kernel
theorem d4_7 : decode prog_2_method_4_code 7 = .ok (.iconst 0, 1) := by decide +kernel
theorem d4_8 : decode prog_2_method_4_code 8 = .ok (.goto 12, 3) := by decide +kernel
theorem d4_20 : decode prog_2_method_4_code 20 = .ok (.istore_n 2, 1) := by decide +kernel
theorem d4_21 : decode prog_2_method_4_code 21 = .ok (.aload_n 0, 1) := by decide +kernel
theorem d4_22 : decode prog_2_method_4_code 22 = .ok (.getfield 7, 3) := by decide +kernel
theorem d4_25 : decode prog_2_method_4_code 25 = .ok (.iload_n 2, 1) := by decide +kernel
theorem d4_26 : decode prog_2_method_4_code 26 = .ok (.iand, 1) := by decide +kernel
theorem d4_27 : decode prog_2_method_4_code 27 = .ok (.iload_n 1, 1) := by decide +kernel
theorem d4_28 : decode prog_2_method_4_code 28 = .ok (.iload_n 2, 1) := by decide +kernel
theorem d4_29 : decode prog_2_method_4_code 29 = .ok (.iand, 1) := by decide +kernel
theorem d4_30 : decode prog_2_method_4_code 30 = .ok (.if_icmp .ne 7, 3) := by decide +kernel
theorem d4_33 : decode prog_2_method_4_code 33 = .ok (.iconst 1, 1) := by decide +kernel
theorem d4_34 : decode prog_2_method_4_code 34 = .ok (.goto 4, 3) := by decide +kernel
theorem d4_38 : decode prog_2_method_4_code 38 = .ok (.ireturn, 1) := by decide +kernel
theorem d4_37 : decode prog_2_method_4_code 37 = .ok (.iconst 0, 1) := by decide +kernel
theorem d4_11 : decode prog_2_method_4_code 11 = .ok (.iconst (-1), 1) := by decide +kernel
theorem d4_12 : decode prog_2_method_4_code 12 = .ok (.bipush 32, 2) := by decide +kernel
theorem d4_14 : decode prog_2_method_4_code 14 = .ok (.aload_n 0, 1) := by decide +kernel
theorem d4_15 : decode prog_2_method_4_code 15 = .ok (.getfield 13, 3) := by decide +kernel
theorem d4_18 : decode prog_2_method_4_code 18 = .ok (.isub, 1) := by decide +kernel
theorem d4_19 : decode prog_2_method_4_code 19 = .ok (.ishl, 1) := by decide +kernel
theorem ef_4 (m : MethodId) (x0 : Addr) (x1 : Int32) : entryFrame m #[(.ref x0), (.int x1)] 3 = mkF m 0 #[.val (.ref x0), .val (.int x1), .unset] [] := by first | (simp [entryFrame, mkF, argsToLocals, Value.category]; done) | rfl
def Q4 (Z : State) (r0 : Addr) (p1 : Int32) (w1 : Int32) (w2 : Int32) (h0 : Heap) (n0 : Nat) (v : Option Value) (h : Heap) (L : List Loc) : Prop := v = some (.int (own_c w1 w2 p1)) ∧ Fr n0 L ∧ h = h0
set_option maxRecDepth 65536 in
set_option maxHeartbeats 40000000 in
theorem rm4 (l : Launch) (Z : State) (a0 : Array Value) (hw : ∀ d ∈ tables_1, d.before a0 Z = true) (ws : List Jvm.Cond) (r0 : Addr) (p1 : Int32) (w1 : Int32) (w2 : Int32) (h0 : Heap) (n0 : Nat) (Z0 : n0 ≤ h0.size) (F_address_r0 : Fld Z h0 r0 "com/example/treewarden/treewarden/acl/IpRange" "address" "I" (.int w1)) (F_bits_r0 : Fld Z h0 r0 "com/example/treewarden/treewarden/acl/IpRange" "bits" "I" (.int w2)) :
    MetFree l (⟨"com/example/treewarden/treewarden/acl/IpRange", "contains", "(I)Z"⟩ : MethodName) (head1 (Jvm.Cond.code (⟨"com/example/treewarden/treewarden/acl/IpRange", "contains", "(I)Z"⟩ : MethodName) prog_2_method_4_code 3 (some .boolean) :: ws) ({ frames := 0, cells := 0, slots := 0, locals := 0 } : Room)) (fun a U => a = #[(.ref r0), (.int p1)] ∧ Z.Warmed39 U.vm ∧ U.heap = h0) (fun _ _ _ _ _ => True) (fun _ U o U' => ∃ v L, o = .returned v ∧ Q4 Z r0 p1 w1 w2 h0 n0 v U'.heap L ∧ FrameEnd U o U' L ({ frames := 0, cells := 0, slots := 0, locals := 0 } : Room).cells ({ frames := 0, cells := 0, slots := 0, locals := 0 } : Room).slots) := by
  refine MetFree.of_bodySF (plainFor_of_name pn1) hisR ?_
  intro p e s m args below meth c s₁ Bd hml0 hP hK
  obtain ⟨rfl, hZ, hh⟩ := hP
  have hx := Bd.exec
  have hby := Bd.bytes
  have hml : c.maxLocals = 3 := hml0
  have hown : s.vm.findClass "com/example/treewarden/treewarden/acl/IpRange" = some m.cls := findClass_of_methodNamed Bd.named
  have hnm := (name_of_methodNamed Bd.named Bd.method).1
  have X0 : Stand p l e ({ frames := 0, cells := 0, slots := 0, locals := 0 } : Room) s m #[(.ref r0), (.int p1)] below meth c s₁ [] 0 0 := Stand.of_body Bd
  have e0 : s₁.heap = h0 := by rw [← hh, Bd.state]; rfl
  have N0 := Fr.nil n0
  have pre0 : ∀ t, Steps p.tables e below (s₁.setTop (mkF m 0 #[rv r0, iv p1, .unset] [])) t → Steps p.tables e below (s₁.setTop (entryFrame m #[(.ref r0), (.int p1)] 3)) t := fun t k => castTop (ef_4 m r0 p1) k
  have pre1 : ∀ t, Steps p.tables e below (s₁.setTop (mkF m 1 #[rv r0, iv p1, .unset] [(.ref r0)])) t → Steps p.tables e below (s₁.setTop (entryFrame m #[(.ref r0), (.int p1)] 3)) t := by
    intro t kt
    refine pre0 _ ?_
    show Steps p.tables e below (s₁.setTop (mkF m 0 #[rv r0, iv p1, .unset] [])) _
    refine XS.aloadN X0.here hx rfl (hb hby d4_0) rfl rfl ?_
    exact kt
  obtain ⟨T2, X2, e2, st2⟩ := getF X0 hx hZ hown (host := "") (Or.inl (hw _ (List.mem_of_getElem? (i := 17) rfl))) Via.refl e0 F_bits_r0 (g := (mkF m 1 #[rv r0, iv p1, .unset] [(.ref r0)])) rfl rfl (hb hby d4_1)
  have pre3 : ∀ t, Steps p.tables e below (T2.setTop (mkF m 4 #[rv r0, iv p1, .unset] [(.int w2)])) t → Steps p.tables e below (s₁.setTop (entryFrame m #[(.ref r0), (.int p1)] 3)) t := by
    intro t kt
    refine pre1 _ ?_
    show Steps p.tables e below (s₁.setTop (mkF m 1 #[rv r0, iv p1, .unset] [(.ref r0)])) _
    refine st2 _ ?_
    exact kt
  by_cases hc4 : w2 = (0 : Int32)
  · have pre4 : ∀ t, Steps p.tables e below (T2.setTop (mkF m 22 #[rv r0, iv p1, iv (0 : Int32)] [(.ref r0)])) t → Steps p.tables e below (s₁.setTop (entryFrame m #[(.ref r0), (.int p1)] 3)) t := by
      intro t kt
      refine pre3 _ ?_
      show Steps p.tables e below (T2.setTop (mkF m 4 #[rv r0, iv p1, .unset] [(.int w2)])) _
      refine XS.ifNo X2.here hx rfl (hb hby d4_4) rfl ((if0 _ _).trans (teq hc4).2) ?_
      show Steps p.tables e below (T2.setTop (mkF m 7 #[rv r0, iv p1, .unset] [])) _
      refine XS.iconst X2.here hx rfl (hb hby d4_7) ?_
      show Steps p.tables e below (T2.setTop (mkF m 8 #[rv r0, iv p1, .unset] [(.int (0 : Int32))])) _
      refine XS.goto X2.here hx rfl (pc0 := 8) (pc' := 20) rfl (hb hby d4_8) (by decide) (by decide) ?_
      show Steps p.tables e below (T2.setTop (mkF m 20 #[rv r0, iv p1, .unset] [(.int (0 : Int32))])) _
      refine XS.istoreN X2.here hx rfl (hb hby d4_20) rfl (l' := #[rv r0, iv p1, iv (0 : Int32)]) rfl ?_
      show Steps p.tables e below (T2.setTop (mkF m 21 #[rv r0, iv p1, iv (0 : Int32)] [])) _
      refine XS.aloadN X2.here hx rfl (hb hby d4_21) rfl rfl ?_
      exact kt
    obtain ⟨T5, X5, e5, st5⟩ := getF X2 hx hZ hown (host := "") (Or.inl (hw _ (List.mem_of_getElem? (i := 15) rfl))) Via.refl e2 F_address_r0 (g := (mkF m 22 #[rv r0, iv p1, iv (0 : Int32)] [(.ref r0)])) rfl rfl (hb hby d4_22)
    have pre6 : ∀ t, Steps p.tables e below (T5.setTop (mkF m 30 #[rv r0, iv p1, iv (0 : Int32)] [(.int (p1 &&& (0 : Int32))), (.int (w1 &&& (0 : Int32)))])) t → Steps p.tables e below (s₁.setTop (entryFrame m #[(.ref r0), (.int p1)] 3)) t := by
      intro t kt
      refine pre4 _ ?_
      show Steps p.tables e below (T2.setTop (mkF m 22 #[rv r0, iv p1, iv (0 : Int32)] [(.ref r0)])) _
      refine st5 _ ?_
      show Steps p.tables e below (T5.setTop (mkF m 25 #[rv r0, iv p1, iv (0 : Int32)] [(.int w1)])) _
      refine XS.iloadN X5.here hx rfl (hb hby d4_25) rfl ?_
      show Steps p.tables e below (T5.setTop (mkF m 26 #[rv r0, iv p1, iv (0 : Int32)] [(.int (0 : Int32)), (.int w1)])) _
      refine XS.iand X5.here hx rfl (hb hby d4_26) rfl ?_
      show Steps p.tables e below (T5.setTop (mkF m 27 #[rv r0, iv p1, iv (0 : Int32)] [(.int (w1 &&& (0 : Int32)))])) _
      refine XS.iloadN X5.here hx rfl (hb hby d4_27) rfl ?_
      show Steps p.tables e below (T5.setTop (mkF m 28 #[rv r0, iv p1, iv (0 : Int32)] [(.int p1), (.int (w1 &&& (0 : Int32)))])) _
      refine XS.iloadN X5.here hx rfl (hb hby d4_28) rfl ?_
      show Steps p.tables e below (T5.setTop (mkF m 29 #[rv r0, iv p1, iv (0 : Int32)] [(.int (0 : Int32)), (.int p1), (.int (w1 &&& (0 : Int32)))])) _
      refine XS.iand X5.here hx rfl (hb hby d4_29) rfl ?_
      exact kt
    by_cases hc30 : (w1 &&& (0 : Int32)) = (p1 &&& (0 : Int32))
    · have pre7 : ∀ t, Steps p.tables e below (T5.setTop (mkF m 38 #[rv r0, iv p1, iv (0 : Int32)] [(.int (1 : Int32))])) t → Steps p.tables e below (s₁.setTop (entryFrame m #[(.ref r0), (.int p1)] 3)) t := by
        intro t kt
        refine pre6 _ ?_
        show Steps p.tables e below (T5.setTop (mkF m 30 #[rv r0, iv p1, iv (0 : Int32)] [(.int (p1 &&& (0 : Int32))), (.int (w1 &&& (0 : Int32)))])) _
        refine XS.icmpNo X5.here hx rfl (hb hby d4_30) rfl (teq hc30).2 ?_
        show Steps p.tables e below (T5.setTop (mkF m 33 #[rv r0, iv p1, iv (0 : Int32)] [])) _
        refine XS.iconst X5.here hx rfl (hb hby d4_33) ?_
        show Steps p.tables e below (T5.setTop (mkF m 34 #[rv r0, iv p1, iv (0 : Int32)] [(.int (1 : Int32))])) _
        refine XS.goto X5.here hx rfl (pc0 := 34) (pc' := 38) rfl (hb hby d4_34) (by decide) (by decide) ?_
        exact kt
      obtain ⟨fs, hr, hrun, hended, hW, hsame⟩ := X5.leave (v := some (.int (1 : Int32))) (fun h => by rw [Bd.returns] at h; cases h)
      refine ⟨_, _, pre7 _ ?_, hrun, hended, _, _, rfl, ?_, ⟨_, rfl⟩, hW, hsame.mono (by decide) (by decide)⟩
      · show Steps p.tables e below (T5.setTop (mkF m 38 #[rv r0, iv p1, iv (0 : Int32)] [(.int (1 : Int32))])) _
        exact retN X5 hx (t := .boolean) Bd.returns (by simp) (hb hby d4_38) hr
      · show Q4 Z r0 p1 w1 w2 h0 n0 _ T5.heap _
        rw [e5]
        exact ⟨congrArg (fun z => some (Value.int z)) ((if_pos hc4).trans ((if_pos hc30).trans rfl)).symm, N0, rfl⟩
    · have pre8 : ∀ t, Steps p.tables e below (T5.setTop (mkF m 38 #[rv r0, iv p1, iv (0 : Int32)] [(.int (0 : Int32))])) t → Steps p.tables e below (s₁.setTop (entryFrame m #[(.ref r0), (.int p1)] 3)) t := by
        intro t kt
        refine pre6 _ ?_
        show Steps p.tables e below (T5.setTop (mkF m 30 #[rv r0, iv p1, iv (0 : Int32)] [(.int (p1 &&& (0 : Int32))), (.int (w1 &&& (0 : Int32)))])) _
        refine XS.icmpYes X5.here hx rfl (pc0 := 30) (pc' := 37) rfl (hb hby d4_30) rfl (feq hc30).2 (by decide) (by decide) ?_
        show Steps p.tables e below (T5.setTop (mkF m 37 #[rv r0, iv p1, iv (0 : Int32)] [])) _
        refine XS.iconst X5.here hx rfl (hb hby d4_37) ?_
        exact kt
      obtain ⟨fs, hr, hrun, hended, hW, hsame⟩ := X5.leave (v := some (.int (0 : Int32))) (fun h => by rw [Bd.returns] at h; cases h)
      refine ⟨_, _, pre8 _ ?_, hrun, hended, _, _, rfl, ?_, ⟨_, rfl⟩, hW, hsame.mono (by decide) (by decide)⟩
      · show Steps p.tables e below (T5.setTop (mkF m 38 #[rv r0, iv p1, iv (0 : Int32)] [(.int (0 : Int32))])) _
        exact retN X5 hx (t := .boolean) Bd.returns (by simp) (hb hby d4_38) hr
      · show Q4 Z r0 p1 w1 w2 h0 n0 _ T5.heap _
        rw [e5]
        exact ⟨congrArg (fun z => some (Value.int z)) ((if_pos hc4).trans ((if_neg hc30).trans rfl)).symm, N0, rfl⟩
  · have pre9 : ∀ t, Steps p.tables e below (T2.setTop (mkF m 15 #[rv r0, iv p1, .unset] [(.ref r0), (.int (32 : Int32)), (.int (-1 : Int32))])) t → Steps p.tables e below (s₁.setTop (entryFrame m #[(.ref r0), (.int p1)] 3)) t := by
      intro t kt
      refine pre3 _ ?_
      show Steps p.tables e below (T2.setTop (mkF m 4 #[rv r0, iv p1, .unset] [(.int w2)])) _
      refine XS.ifYes X2.here hx rfl (pc0 := 4) (pc' := 11) rfl (hb hby d4_4) rfl ((if0 _ _).trans (feq hc4).2) (by decide) (by decide) ?_
      show Steps p.tables e below (T2.setTop (mkF m 11 #[rv r0, iv p1, .unset] [])) _
      refine XS.iconst X2.here hx rfl (hb hby d4_11) ?_
      show Steps p.tables e below (T2.setTop (mkF m 12 #[rv r0, iv p1, .unset] [(.int (-1 : Int32))])) _
      refine XS.bipush X2.here hx rfl (hb hby d4_12) ?_
      show Steps p.tables e below (T2.setTop (mkF m 14 #[rv r0, iv p1, .unset] [(.int (32 : Int32)), (.int (-1 : Int32))])) _
      refine XS.aloadN X2.here hx rfl (hb hby d4_14) rfl rfl ?_
      exact kt
    obtain ⟨T10, X10, e10, st10⟩ := getF X2 hx hZ hown (host := "") (Or.inl (hw _ (List.mem_of_getElem? (i := 17) rfl))) Via.refl e2 F_bits_r0 (g := (mkF m 15 #[rv r0, iv p1, .unset] [(.ref r0), (.int (32 : Int32)), (.int (-1 : Int32))])) rfl rfl (hb hby d4_15)
    have pre11 : ∀ t, Steps p.tables e below (T10.setTop (mkF m 22 #[rv r0, iv p1, iv ((-1 : Int32) <<< (((32 : Int32) - w2) &&& 31))] [(.ref r0)])) t → Steps p.tables e below (s₁.setTop (entryFrame m #[(.ref r0), (.int p1)] 3)) t := by
      intro t kt
      refine pre9 _ ?_
      show Steps p.tables e below (T2.setTop (mkF m 15 #[rv r0, iv p1, .unset] [(.ref r0), (.int (32 : Int32)), (.int (-1 : Int32))])) _
      refine st10 _ ?_
      show Steps p.tables e below (T10.setTop (mkF m 18 #[rv r0, iv p1, .unset] [(.int w2), (.int (32 : Int32)), (.int (-1 : Int32))])) _
      refine XS.isub X10.here hx rfl (hb hby d4_18) rfl ?_
      show Steps p.tables e below (T10.setTop (mkF m 19 #[rv r0, iv p1, .unset] [(.int ((32 : Int32) - w2)), (.int (-1 : Int32))])) _
      refine XS.ishl X10.here hx rfl (hb hby d4_19) rfl ?_
      show Steps p.tables e below (T10.setTop (mkF m 20 #[rv r0, iv p1, .unset] [(.int ((-1 : Int32) <<< (((32 : Int32) - w2) &&& 31)))])) _
      refine XS.istoreN X10.here hx rfl (hb hby d4_20) rfl (l' := #[rv r0, iv p1, iv ((-1 : Int32) <<< (((32 : Int32) - w2) &&& 31))]) rfl ?_
      show Steps p.tables e below (T10.setTop (mkF m 21 #[rv r0, iv p1, iv ((-1 : Int32) <<< (((32 : Int32) - w2) &&& 31))] [])) _
      refine XS.aloadN X10.here hx rfl (hb hby d4_21) rfl rfl ?_
      exact kt
    obtain ⟨T12, X12, e12, st12⟩ := getF X10 hx hZ hown (host := "") (Or.inl (hw _ (List.mem_of_getElem? (i := 15) rfl))) Via.refl e10 F_address_r0 (g := (mkF m 22 #[rv r0, iv p1, iv ((-1 : Int32) <<< (((32 : Int32) - w2) &&& 31))] [(.ref r0)])) rfl rfl (hb hby d4_22)
    have pre13 : ∀ t, Steps p.tables e below (T12.setTop (mkF m 30 #[rv r0, iv p1, iv ((-1 : Int32) <<< (((32 : Int32) - w2) &&& 31))] [(.int (p1 &&& ((-1 : Int32) <<< (((32 : Int32) - w2) &&& 31)))), (.int (w1 &&& ((-1 : Int32) <<< (((32 : Int32) - w2) &&& 31))))])) t → Steps p.tables e below (s₁.setTop (entryFrame m #[(.ref r0), (.int p1)] 3)) t := by
      intro t kt
      refine pre11 _ ?_
      show Steps p.tables e below (T10.setTop (mkF m 22 #[rv r0, iv p1, iv ((-1 : Int32) <<< (((32 : Int32) - w2) &&& 31))] [(.ref r0)])) _
      refine st12 _ ?_
      show Steps p.tables e below (T12.setTop (mkF m 25 #[rv r0, iv p1, iv ((-1 : Int32) <<< (((32 : Int32) - w2) &&& 31))] [(.int w1)])) _
      refine XS.iloadN X12.here hx rfl (hb hby d4_25) rfl ?_
      show Steps p.tables e below (T12.setTop (mkF m 26 #[rv r0, iv p1, iv ((-1 : Int32) <<< (((32 : Int32) - w2) &&& 31))] [(.int ((-1 : Int32) <<< (((32 : Int32) - w2) &&& 31))), (.int w1)])) _
      refine XS.iand X12.here hx rfl (hb hby d4_26) rfl ?_
      show Steps p.tables e below (T12.setTop (mkF m 27 #[rv r0, iv p1, iv ((-1 : Int32) <<< (((32 : Int32) - w2) &&& 31))] [(.int (w1 &&& ((-1 : Int32) <<< (((32 : Int32) - w2) &&& 31))))])) _
      refine XS.iloadN X12.here hx rfl (hb hby d4_27) rfl ?_
      show Steps p.tables e below (T12.setTop (mkF m 28 #[rv r0, iv p1, iv ((-1 : Int32) <<< (((32 : Int32) - w2) &&& 31))] [(.int p1), (.int (w1 &&& ((-1 : Int32) <<< (((32 : Int32) - w2) &&& 31))))])) _
      refine XS.iloadN X12.here hx rfl (hb hby d4_28) rfl ?_
      show Steps p.tables e below (T12.setTop (mkF m 29 #[rv r0, iv p1, iv ((-1 : Int32) <<< (((32 : Int32) - w2) &&& 31))] [(.int ((-1 : Int32) <<< (((32 : Int32) - w2) &&& 31))), (.int p1), (.int (w1 &&& ((-1 : Int32) <<< (((32 : Int32) - w2) &&& 31))))])) _
      refine XS.iand X12.here hx rfl (hb hby d4_29) rfl ?_
      exact kt
    by_cases hc30 : (w1 &&& ((-1 : Int32) <<< (((32 : Int32) - w2) &&& 31))) = (p1 &&& ((-1 : Int32) <<< (((32 : Int32) - w2) &&& 31)))
    · have pre14 : ∀ t, Steps p.tables e below (T12.setTop (mkF m 38 #[rv r0, iv p1, iv ((-1 : Int32) <<< (((32 : Int32) - w2) &&& 31))] [(.int (1 : Int32))])) t → Steps p.tables e below (s₁.setTop (entryFrame m #[(.ref r0), (.int p1)] 3)) t := by
        intro t kt
        refine pre13 _ ?_
        show Steps p.tables e below (T12.setTop (mkF m 30 #[rv r0, iv p1, iv ((-1 : Int32) <<< (((32 : Int32) - w2) &&& 31))] [(.int (p1 &&& ((-1 : Int32) <<< (((32 : Int32) - w2) &&& 31)))), (.int (w1 &&& ((-1 : Int32) <<< (((32 : Int32) - w2) &&& 31))))])) _
        refine XS.icmpNo X12.here hx rfl (hb hby d4_30) rfl (teq hc30).2 ?_
        show Steps p.tables e below (T12.setTop (mkF m 33 #[rv r0, iv p1, iv ((-1 : Int32) <<< (((32 : Int32) - w2) &&& 31))] [])) _
        refine XS.iconst X12.here hx rfl (hb hby d4_33) ?_
        show Steps p.tables e below (T12.setTop (mkF m 34 #[rv r0, iv p1, iv ((-1 : Int32) <<< (((32 : Int32) - w2) &&& 31))] [(.int (1 : Int32))])) _
        refine XS.goto X12.here hx rfl (pc0 := 34) (pc' := 38) rfl (hb hby d4_34) (by decide) (by decide) ?_
        exact kt
      obtain ⟨fs, hr, hrun, hended, hW, hsame⟩ := X12.leave (v := some (.int (1 : Int32))) (fun h => by rw [Bd.returns] at h; cases h)
      refine ⟨_, _, pre14 _ ?_, hrun, hended, _, _, rfl, ?_, ⟨_, rfl⟩, hW, hsame.mono (by decide) (by decide)⟩
      · show Steps p.tables e below (T12.setTop (mkF m 38 #[rv r0, iv p1, iv ((-1 : Int32) <<< (((32 : Int32) - w2) &&& 31))] [(.int (1 : Int32))])) _
        exact retN X12 hx (t := .boolean) Bd.returns (by simp) (hb hby d4_38) hr
      · show Q4 Z r0 p1 w1 w2 h0 n0 _ T12.heap _
        rw [e12]
        exact ⟨congrArg (fun z => some (Value.int z)) ((if_neg hc4).trans ((if_pos hc30).trans rfl)).symm, N0, rfl⟩
    · have pre15 : ∀ t, Steps p.tables e below (T12.setTop (mkF m 38 #[rv r0, iv p1, iv ((-1 : Int32) <<< (((32 : Int32) - w2) &&& 31))] [(.int (0 : Int32))])) t → Steps p.tables e below (s₁.setTop (entryFrame m #[(.ref r0), (.int p1)] 3)) t := by
        intro t kt
        refine pre13 _ ?_
        show Steps p.tables e below (T12.setTop (mkF m 30 #[rv r0, iv p1, iv ((-1 : Int32) <<< (((32 : Int32) - w2) &&& 31))] [(.int (p1 &&& ((-1 : Int32) <<< (((32 : Int32) - w2) &&& 31)))), (.int (w1 &&& ((-1 : Int32) <<< (((32 : Int32) - w2) &&& 31))))])) _
        refine XS.icmpYes X12.here hx rfl (pc0 := 30) (pc' := 37) rfl (hb hby d4_30) rfl (feq hc30).2 (by decide) (by decide) ?_
        show Steps p.tables e below (T12.setTop (mkF m 37 #[rv r0, iv p1, iv ((-1 : Int32) <<< (((32 : Int32) - w2) &&& 31))] [])) _
        refine XS.iconst X12.here hx rfl (hb hby d4_37) ?_
        exact kt
      obtain ⟨fs, hr, hrun, hended, hW, hsame⟩ := X12.leave (v := some (.int (0 : Int32))) (fun h => by rw [Bd.returns] at h; cases h)
      refine ⟨_, _, pre15 _ ?_, hrun, hended, _, _, rfl, ?_, ⟨_, rfl⟩, hW, hsame.mono (by decide) (by decide)⟩
      · show Steps p.tables e below (T12.setTop (mkF m 38 #[rv r0, iv p1, iv ((-1 : Int32) <<< (((32 : Int32) - w2) &&& 31))] [(.int (0 : Int32))])) _
        exact retN X12 hx (t := .boolean) Bd.returns (by simp) (hb hby d4_38) hr
      · show Q4 Z r0 p1 w1 w2 h0 n0 _ T12.heap _
        rw [e12]
        exact ⟨congrArg (fun z => some (Value.int z)) ((if_neg hc4).trans ((if_neg hc30).trans rfl)).symm, N0, rfl⟩
theorem pn3 : plainName "com/example/treewarden/treewarden/acl/IpRangeContainsPinLaw" = true := by first | (simp [plainName, overriddenIn]; done) | decide +kernel
theorem pd4 : parseMethodDescriptor "(II)V" = some ⟨[.int, .int], none⟩ := by decide +kernel
theorem pd5 : parseMethodDescriptor "(I)Z" = some ⟨[.int], some .boolean⟩ := by decide +kernel
theorem ef_0 (m : MethodId) (x0 : Int32) (x1 : Int32) (x2 : Int32) (x3 : Int32) : entryFrame m #[(.int x0), (.int x1), (.int x2), (.int x3)] maxLocals = mkF m 0 #[.val (.int x0), .val (.int x1), .val (.int x2), .val (.int x3), .unset, .unset, .unset, .unset, .unset, .unset, .unset, .unset, .unset, .unset, .unset] [] := by first | (simp [entryFrame, mkF, argsToLocals, Value.category, maxLocals]; done) | rfl
def Q0 (Z : State) (p0 : Int32) (p1 : Int32) (p2 : Int32) (p3 : Int32) (h0 : Heap) (n0 : Nat) (v : Option Value) (h : Heap) (L : List Loc) : Prop := v = some (.int 1) ∧ Fr n0 L
set_option maxRecDepth 65536 in
set_option maxHeartbeats 40000000 in
theorem rm0 (l : Launch) (Z : State) (a0 : Array Value) (hw : ∀ d ∈ tables_1, d.before a0 Z = true) (ws : List Jvm.Cond) (p0 : Int32) (p1 : Int32) (p2 : Int32) (p3 : Int32) (h0 : Heap) (n0 : Nat) (Z0 : n0 ≤ h0.size) :
    MetFree l x (head1 (Jvm.Cond.code x code maxLocals ret :: ws) room_1) (fun a U => a = #[(.int p0), (.int p1), (.int p2), (.int p3)] ∧ Z.Warmed39 U.vm ∧ U.heap = h0) (fun _ _ _ _ _ => True) (fun _ U o U' => ∃ v L, o = .returned v ∧ Q0 Z p0 p1 p2 p3 h0 n0 v U'.heap L ∧ FrameEnd U o U' L room_1.cells room_1.slots) := by
  refine MetFree.of_bodySF (plainFor_of_name pn3) hisR ?_
  intro p e s m args below meth c s₁ Bd hml0 hP hK
  obtain ⟨rfl, hZ, hh⟩ := hP
  have hx := Bd.exec
  have hby := Bd.bytes
  have hml : c.maxLocals = 15 := hml0
  have hown : s.vm.findClass "com/example/treewarden/treewarden/acl/IpRangeContainsPinLaw" = some m.cls := findClass_of_methodNamed Bd.named
  have hnm := (name_of_methodNamed Bd.named Bd.method).1
  have X0 : Stand p l e room_1 s m #[(.int p0), (.int p1), (.int p2), (.int p3)] below meth c s₁ [] 0 0 := Stand.of_body Bd
  have e0 : s₁.heap = h0 := by rw [← hh, Bd.state]; rfl
  have N0 := Fr.nil n0
  have pre0 : ∀ t, Steps p.tables e below (s₁.setTop (mkF m 0 #[iv p0, iv p1, iv p2, iv p3, .unset, .unset, .unset, .unset, .unset, .unset, .unset, .unset, .unset, .unset, .unset] [])) t → Steps p.tables e below (s₁.setTop (entryFrame m #[(.int p0), (.int p1), (.int p2), (.int p3)] maxLocals)) t := fun t k => castTop (ef_0 m p0 p1 p2 p3) k
  obtain ⟨bits, h_bits⟩ : ∃ z : Int32, z = ((p1 &&& (2147483647 : Int32)) % (33 : Int32)) := ⟨_, rfl⟩
  obtain ⟨flip, h_flip⟩ : ∃ z : Int32, z = ((p2.toUInt32 >>> ((p3 &&& (31 : Int32)) &&& 31).toUInt32).toInt32) := ⟨_, rfl⟩
  obtain ⟨oth, h_oth⟩ : ∃ z : Int32, z = (p0 ^^^ flip) := ⟨_, rfl⟩
  have pre1 : ∀ t, Steps p.tables e below (s₁.setTop (mkF m 23 #[iv p0, iv p1, iv p2, iv p3, iv bits, iv flip, iv oth, .unset, .unset, .unset, .unset, .unset, .unset, .unset, .unset] [])) t → Steps p.tables e below (s₁.setTop (entryFrame m #[(.int p0), (.int p1), (.int p2), (.int p3)] maxLocals)) t := by
    intro t kt
    refine pre0 _ ?_
    show Steps p.tables e below (s₁.setTop (mkF m 0 #[iv p0, iv p1, iv p2, iv p3, .unset, .unset, .unset, .unset, .unset, .unset, .unset, .unset, .unset, .unset, .unset] [])) _
    refine XS.iloadN X0.here hx rfl (hb hby at_0) rfl ?_
    show Steps p.tables e below (s₁.setTop (mkF m 1 #[iv p0, iv p1, iv p2, iv p3, .unset, .unset, .unset, .unset, .unset, .unset, .unset, .unset, .unset, .unset, .unset] [(.int p1)])) _
    refine X0.ldcInt hx hown (mvT hZ (hw _ (List.mem_of_getElem? (i := 0) rfl))) (g := (mkF m 1 #[iv p0, iv p1, iv p2, iv p3, .unset, .unset, .unset, .unset, .unset, .unset, .unset, .unset, .unset, .unset, .unset] [(.int p1)])) rfl (hb hby at_1) _ ?_
    show Steps p.tables e below (s₁.setTop (mkF m 3 #[iv p0, iv p1, iv p2, iv p3, .unset, .unset, .unset, .unset, .unset, .unset, .unset, .unset, .unset, .unset, .unset] [(.int (2147483647 : Int32)), (.int p1)])) _
    refine XS.iand X0.here hx rfl (hb hby at_3) rfl ?_
    show Steps p.tables e below (s₁.setTop (mkF m 4 #[iv p0, iv p1, iv p2, iv p3, .unset, .unset, .unset, .unset, .unset, .unset, .unset, .unset, .unset, .unset, .unset] [(.int (p1 &&& (2147483647 : Int32)))])) _
    refine XS.bipush X0.here hx rfl (hb hby at_4) ?_
    show Steps p.tables e below (s₁.setTop (mkF m 6 #[iv p0, iv p1, iv p2, iv p3, .unset, .unset, .unset, .unset, .unset, .unset, .unset, .unset, .unset, .unset, .unset] [(.int (33 : Int32)), (.int (p1 &&& (2147483647 : Int32)))])) _
    refine iremM X0 hx rfl (hb hby at_6) rfl (by decide) ?_
    show Steps p.tables e below (s₁.setTop (mkF m 7 #[iv p0, iv p1, iv p2, iv p3, .unset, .unset, .unset, .unset, .unset, .unset, .unset, .unset, .unset, .unset, .unset] [(.int ((p1 &&& (2147483647 : Int32)) % (33 : Int32)))])) _
    refine XS.istore X0.here hx rfl (hb hby at_7) rfl (l' := #[iv p0, iv p1, iv p2, iv p3, iv ((p1 &&& (2147483647 : Int32)) % (33 : Int32)), .unset, .unset, .unset, .unset, .unset, .unset, .unset, .unset, .unset, .unset]) rfl ?_
    show Steps p.tables e below (s₁.setTop (mkF m 9 #[iv p0, iv p1, iv p2, iv p3, iv ((p1 &&& (2147483647 : Int32)) % (33 : Int32)), .unset, .unset, .unset, .unset, .unset, .unset, .unset, .unset, .unset, .unset] [])) _
    rw [← h_bits]
    show Steps p.tables e below (s₁.setTop (mkF m 9 #[iv p0, iv p1, iv p2, iv p3, iv bits, .unset, .unset, .unset, .unset, .unset, .unset, .unset, .unset, .unset, .unset] [])) _
    refine XS.iloadN X0.here hx rfl (hb hby at_9) rfl ?_
    show Steps p.tables e below (s₁.setTop (mkF m 10 #[iv p0, iv p1, iv p2, iv p3, iv bits, .unset, .unset, .unset, .unset, .unset, .unset, .unset, .unset, .unset, .unset] [(.int p2)])) _
    refine XS.iloadN X0.here hx rfl (hb hby at_10) rfl ?_
    show Steps p.tables e below (s₁.setTop (mkF m 11 #[iv p0, iv p1, iv p2, iv p3, iv bits, .unset, .unset, .unset, .unset, .unset, .unset, .unset, .unset, .unset, .unset] [(.int p3), (.int p2)])) _
    refine XS.bipush X0.here hx rfl (hb hby at_11) ?_
    show Steps p.tables e below (s₁.setTop (mkF m 13 #[iv p0, iv p1, iv p2, iv p3, iv bits, .unset, .unset, .unset, .unset, .unset, .unset, .unset, .unset, .unset, .unset] [(.int (31 : Int32)), (.int p3), (.int p2)])) _
    refine XS.iand X0.here hx rfl (hb hby at_13) rfl ?_
    show Steps p.tables e below (s₁.setTop (mkF m 14 #[iv p0, iv p1, iv p2, iv p3, iv bits, .unset, .unset, .unset, .unset, .unset, .unset, .unset, .unset, .unset, .unset] [(.int (p3 &&& (31 : Int32))), (.int p2)])) _
    refine XS.iushr X0.here hx rfl (hb hby at_14) rfl ?_
    show Steps p.tables e below (s₁.setTop (mkF m 15 #[iv p0, iv p1, iv p2, iv p3, iv bits, .unset, .unset, .unset, .unset, .unset, .unset, .unset, .unset, .unset, .unset] [(.int ((p2.toUInt32 >>> ((p3 &&& (31 : Int32)) &&& 31).toUInt32).toInt32))])) _
    refine XS.istore X0.here hx rfl (hb hby at_15) rfl (l' := #[iv p0, iv p1, iv p2, iv p3, iv bits, iv ((p2.toUInt32 >>> ((p3 &&& (31 : Int32)) &&& 31).toUInt32).toInt32), .unset, .unset, .unset, .unset, .unset, .unset, .unset, .unset, .unset]) rfl ?_
    show Steps p.tables e below (s₁.setTop (mkF m 17 #[iv p0, iv p1, iv p2, iv p3, iv bits, iv ((p2.toUInt32 >>> ((p3 &&& (31 : Int32)) &&& 31).toUInt32).toInt32), .unset, .unset, .unset, .unset, .unset, .unset, .unset, .unset, .unset] [])) _
    rw [← h_flip]
    show Steps p.tables e below (s₁.setTop (mkF m 17 #[iv p0, iv p1, iv p2, iv p3, iv bits, iv flip, .unset, .unset, .unset, .unset, .unset, .unset, .unset, .unset, .unset] [])) _
    refine XS.iloadN X0.here hx rfl (hb hby at_17) rfl ?_
    show Steps p.tables e below (s₁.setTop (mkF m 18 #[iv p0, iv p1, iv p2, iv p3, iv bits, iv flip, .unset, .unset, .unset, .unset, .unset, .unset, .unset, .unset, .unset] [(.int p0)])) _
    refine XS.iload X0.here hx rfl (hb hby at_18) rfl ?_
    show Steps p.tables e below (s₁.setTop (mkF m 20 #[iv p0, iv p1, iv p2, iv p3, iv bits, iv flip, .unset, .unset, .unset, .unset, .unset, .unset, .unset, .unset, .unset] [(.int flip), (.int p0)])) _
    refine XS.ixor X0.here hx rfl (hb hby at_20) rfl ?_
    show Steps p.tables e below (s₁.setTop (mkF m 21 #[iv p0, iv p1, iv p2, iv p3, iv bits, iv flip, .unset, .unset, .unset, .unset, .unset, .unset, .unset, .unset, .unset] [(.int (p0 ^^^ flip))])) _
    refine XS.istore X0.here hx rfl (hb hby at_21) rfl (l' := #[iv p0, iv p1, iv p2, iv p3, iv bits, iv flip, iv (p0 ^^^ flip), .unset, .unset, .unset, .unset, .unset, .unset, .unset, .unset]) rfl ?_
    show Steps p.tables e below (s₁.setTop (mkF m 23 #[iv p0, iv p1, iv p2, iv p3, iv bits, iv flip, iv (p0 ^^^ flip), .unset, .unset, .unset, .unset, .unset, .unset, .unset, .unset] [])) _
    rw [← h_oth]
    exact kt
  obtain ⟨T2, h2, X2, e2, E2, A2, D2, -, st2⟩ := newO X0 hx hZ hown (hw _ (List.mem_of_getElem? (i := 1) rfl)) (hw _ (List.mem_of_getElem? (i := 2) rfl)) (hw _ (List.mem_of_getElem? (i := 3) rfl)) e0 (g := (mkF m 23 #[iv p0, iv p1, iv p2, iv p3, iv bits, iv flip, iv oth, .unset, .unset, .unset, .unset, .unset, .unset, .unset, .unset] [])) rfl (hb hby at_23) (by decide) (by decide)
  obtain ⟨b2, g2⟩ : ∃ z, z = h0.size := ⟨_, rfl⟩
  rw [← g2] at A2 D2 st2
  have g_b2 : n0 ≤ b2 := Nat.le_trans (Nat.le_trans Z0 (Keep.refl h0 []).1) (Nat.le_of_eq g2.symm)
  have sz_b2 : h0.size ≤ b2 := Nat.le_trans (Keep.refl h0 []).1 (Nat.le_of_eq g2.symm)
  have F_address_b2 : Fld Z h2 b2 "com/example/treewarden/treewarden/acl/IpRange" "address" "I" (.int (0 : Int32)) := D2 (Or.inr (hw _ (List.mem_of_getElem? (i := 16) rfl))) (ty := .int) (by decide)
  have F_bits_b2 : Fld Z h2 b2 "com/example/treewarden/treewarden/acl/IpRange" "bits" "I" (.int (0 : Int32)) := D2 (Or.inr (hw _ (List.mem_of_getElem? (i := 18) rfl))) (ty := .int) (by decide)
  have K2 : Keep h0 h2 [] := (Keep.refl h0 []).ext E2
  have pre3 : ∀ t, Steps p.tables e below (T2.setTop (mkF m 30 #[iv p0, iv p1, iv p2, iv p3, iv bits, iv flip, iv oth, .unset, .unset, .unset, .unset, .unset, .unset, .unset, .unset] [(.int bits), (.int p0), (.ref b2), (.ref b2)])) t → Steps p.tables e below (s₁.setTop (entryFrame m #[(.int p0), (.int p1), (.int p2), (.int p3)] maxLocals)) t := by
    intro t kt
    refine pre1 _ ?_
    show Steps p.tables e below (s₁.setTop (mkF m 23 #[iv p0, iv p1, iv p2, iv p3, iv bits, iv flip, iv oth, .unset, .unset, .unset, .unset, .unset, .unset, .unset, .unset] [])) _
    refine st2 _ ?_
    show Steps p.tables e below (T2.setTop (mkF m 26 #[iv p0, iv p1, iv p2, iv p3, iv bits, iv flip, iv oth, .unset, .unset, .unset, .unset, .unset, .unset, .unset, .unset] [(.ref b2)])) _
    refine XS.dup X2.here hx rfl (hb hby at_26) rfl rfl ?_
    show Steps p.tables e below (T2.setTop (mkF m 27 #[iv p0, iv p1, iv p2, iv p3, iv bits, iv flip, iv oth, .unset, .unset, .unset, .unset, .unset, .unset, .unset, .unset] [(.ref b2), (.ref b2)])) _
    refine XS.iloadN X2.here hx rfl (hb hby at_27) rfl ?_
    show Steps p.tables e below (T2.setTop (mkF m 28 #[iv p0, iv p1, iv p2, iv p3, iv bits, iv flip, iv oth, .unset, .unset, .unset, .unset, .unset, .unset, .unset, .unset] [(.int p0), (.ref b2), (.ref b2)])) _
    refine XS.iload X2.here hx rfl (hb hby at_28) rfl ?_
    exact kt
  obtain ⟨_, _, ⟨T4, L4, k4, n4⟩, -, X4, ⟨Lc4, hQ4, l4, y4, z4⟩, st4⟩ := X2.specialBack hx (y := (⟨"com/example/treewarden/treewarden/acl/IpRange", "<init>", "(II)V"⟩ : MethodName)) rfl hown (mvT hZ (hw _ (List.mem_of_getElem? (i := 4) rfl))) (mvT hZ (hw _ (List.mem_of_getElem? (i := 5) rfl))) (mvT hZ (hw _ (List.mem_of_getElem? (i := 6) rfl))) (by decide) (backOf (W := 1) (rm1 l Z a0 hw [] b2 p0 bits h2 n0 (Nat.le_trans Z0 K2.1) F_address_b2 F_bits_b2 A2 g_b2) hZ (hw _ (List.mem_of_getElem? (i := 6) rfl)) (hw _ (List.mem_of_getElem? (i := 3) rfl)) (by decide) (by decide)) (g := (mkF m 30 #[iv p0, iv p1, iv p2, iv p3, iv bits, iv flip, iv oth, .unset, .unset, .unset, .unset, .unset, .unset, .unset, .unset] [(.int bits), (.int p0), (.ref b2), (.ref b2)])) rfl (by rw [hml]; rfl) (Steps.refl _) (a := b2) (argsL := [(.int p0), (.int bits)]) (rest := [(.ref b2)]) (lenOf pd4 rfl) rfl (by show 2 * 0 + _ ≤ _; exact Nat.le_of_eq rfl) (hb hby at_30) (fun _ _ => ⟨rfl, e2, (by decide : 1 + 0 ≤ _), (by decide : 2 + 0 ≤ _)⟩)
  dsimp only [Pt.U, Pt.locs, Pt.cells, Pt.slots] at X4 l4 y4 z4 st4 hQ4
  subst l4 y4 z4
  obtain ⟨rfl, N4q, Kc4, Fa4, Fb4⟩ := hQ4
  have N4 := Fr.app N0 N4q
  have K4 : Keep h0 T4.heap [] := K2.trans Kc4 (allS (Or.inr sz_b2) all0)
  have pre5 : ∀ t, Steps p.tables e below (T4.setTop (mkF m 39 #[iv p0, iv p1, iv p2, iv p3, iv bits, iv flip, iv oth, rv b2, .unset, .unset, .unset, .unset, .unset, .unset, .unset] [(.int oth), (.ref b2)])) t → Steps p.tables e below (s₁.setTop (entryFrame m #[(.int p0), (.int p1), (.int p2), (.int p3)] maxLocals)) t := by
    intro t kt
    refine pre3 _ ?_
    show Steps p.tables e below (T2.setTop (mkF m 30 #[iv p0, iv p1, iv p2, iv p3, iv bits, iv flip, iv oth, .unset, .unset, .unset, .unset, .unset, .unset, .unset, .unset] [(.int bits), (.int p0), (.ref b2), (.ref b2)])) _
    refine st4.trans ?_
    show Steps p.tables e below (T4.setTop (mkF m 33 #[iv p0, iv p1, iv p2, iv p3, iv bits, iv flip, iv oth, .unset, .unset, .unset, .unset, .unset, .unset, .unset, .unset] [(.ref b2)])) _
    refine XS.astore X4.here hx rfl (hb hby at_33) rfl rfl (l' := #[iv p0, iv p1, iv p2, iv p3, iv bits, iv flip, iv oth, rv b2, .unset, .unset, .unset, .unset, .unset, .unset, .unset]) rfl ?_
    show Steps p.tables e below (T4.setTop (mkF m 35 #[iv p0, iv p1, iv p2, iv p3, iv bits, iv flip, iv oth, rv b2, .unset, .unset, .unset, .unset, .unset, .unset, .unset] [])) _
    refine XS.aload X4.here hx rfl (hb hby at_35) rfl rfl ?_
    show Steps p.tables e below (T4.setTop (mkF m 37 #[iv p0, iv p1, iv p2, iv p3, iv bits, iv flip, iv oth, rv b2, .unset, .unset, .unset, .unset, .unset, .unset, .unset] [(.ref b2)])) _
    refine XS.iload X4.here hx rfl (hb hby at_37) rfl ?_
    exact kt
  obtain ⟨cq6, kq6, q6a, q6b, q6c⟩ := isOf hZ rfl (A2.keep Kc4)
  obtain ⟨_, _, ⟨T6, L6, k6, n6⟩, -, X6, ⟨Lc6, hQ6, l6, y6, z6⟩, st6⟩ := X4.virtualBack hx (y := (⟨"com/example/treewarden/treewarden/acl/IpRange", "contains", "(I)Z"⟩ : MethodName)) (z := (⟨"com/example/treewarden/treewarden/acl/IpRange", "contains", "(I)Z"⟩ : MethodName)) hown (mvT hZ (hw _ (List.mem_of_getElem? (i := 19) rfl))) (mvT hZ (hw _ (List.mem_of_getElem? (i := 20) rfl))) (notFace_of_selects (args := #[]) (mvT hZ (hw _ (List.mem_of_getElem? (i := 22) rfl)))) (mvT hZ (hw _ (List.mem_of_getElem? (i := 22) rfl))) (mvT hZ (hw _ (List.mem_of_getElem? (i := 21) rfl))) (by decide) (backOf (W := 0) (rm4 l Z a0 hw [] b2 oth p0 bits T4.heap n0 (Nat.le_trans Z0 K4.1) Fa4 Fb4) hZ (hw _ (List.mem_of_getElem? (i := 23) rfl)) (hw _ (List.mem_of_getElem? (i := 3) rfl)) (by decide) (by decide)) q6a q6c (g := (mkF m 39 #[iv p0, iv p1, iv p2, iv p3, iv bits, iv flip, iv oth, rv b2, .unset, .unset, .unset, .unset, .unset, .unset, .unset] [(.int oth), (.ref b2)])) rfl (by rw [hml]; rfl) (Steps.refl _) (argsL := [(.int oth)]) (rest := []) (lenOf pd5 rfl) rfl (by show 2 * 0 + _ ≤ _; exact Nat.le_of_eq rfl) (hb hby at_39) (fun _ _ => ⟨rfl, rfl, (by decide : 1 + 0 ≤ _), (by decide : 2 + 0 ≤ _)⟩)
  dsimp only [Pt.U, Pt.locs, Pt.cells, Pt.slots] at X6 l6 y6 z6 st6 hQ6
  subst l6 y6 z6
  obtain ⟨rfl, N6q, hh6⟩ := hQ6
  have N6 := Fr.app N4 N6q
  have pre7 : ∀ t, Steps p.tables e below (T6.setTop (mkF m 44 #[iv p0, iv p1, iv p2, iv p3, iv bits, iv flip, iv oth, rv b2, iv (own_c p0 bits oth), .unset, .unset, .unset, .unset, .unset, .unset] [])) t → Steps p.tables e below (s₁.setTop (entryFrame m #[(.int p0), (.int p1), (.int p2), (.int p3)] maxLocals)) t := by
    intro t kt
    refine pre5 _ ?_
    show Steps p.tables e below (T4.setTop (mkF m 39 #[iv p0, iv p1, iv p2, iv p3, iv bits, iv flip, iv oth, rv b2, .unset, .unset, .unset, .unset, .unset, .unset, .unset] [(.int oth), (.ref b2)])) _
    refine st6.trans ?_
    show Steps p.tables e below (T6.setTop (mkF m 42 #[iv p0, iv p1, iv p2, iv p3, iv bits, iv flip, iv oth, rv b2, .unset, .unset, .unset, .unset, .unset, .unset, .unset] [(.int (own_c p0 bits oth))])) _
    refine XS.istore X6.here hx rfl (hb hby at_42) rfl (l' := #[iv p0, iv p1, iv p2, iv p3, iv bits, iv flip, iv oth, rv b2, iv (own_c p0 bits oth), .unset, .unset, .unset, .unset, .unset, .unset]) rfl ?_
    exact kt
  obtain ⟨exp, hexp, pre12⟩ : ∃ (exp : Int32), ((((lcmpW ((((p0.toInt64) &&& (4294967295 : Int64)).toUInt64 >>> (((32 : Int32) - bits) &&& 0x3f).toInt64.toUInt64).toInt64) ((((oth.toInt64) &&& (4294967295 : Int64)).toUInt64 >>> (((32 : Int32) - bits) &&& 0x3f).toInt64.toUInt64).toInt64)) = (0 : Int32)) ∧ exp = (1 : Int32)) ∨ ((¬ ((lcmpW ((((p0.toInt64) &&& (4294967295 : Int64)).toUInt64 >>> (((32 : Int32) - bits) &&& 0x3f).toInt64.toUInt64).toInt64) ((((oth.toInt64) &&& (4294967295 : Int64)).toUInt64 >>> (((32 : Int32) - bits) &&& 0x3f).toInt64.toUInt64).toInt64)) = (0 : Int32))) ∧ exp = (0 : Int32))) ∧ ∀ t, Steps p.tables e below (T6.setTop (mkF m 87 #[iv p0, iv p1, iv p2, iv p3, iv bits, iv flip, iv oth, rv b2, iv (own_c p0 bits oth), .val (.long ((p0.toInt64) &&& (4294967295 : Int64))), .second, .val (.long ((oth.toInt64) &&& (4294967295 : Int64))), .second, iv ((32 : Int32) - bits), .unset] [(.int exp)])) t → Steps p.tables e below (s₁.setTop (entryFrame m #[(.int p0), (.int p1), (.int p2), (.int p3)] maxLocals)) t := by
    have pre8 : ∀ t, Steps p.tables e below (T6.setTop (mkF m 79 #[iv p0, iv p1, iv p2, iv p3, iv bits, iv flip, iv oth, rv b2, iv (own_c p0 bits oth), .val (.long ((p0.toInt64) &&& (4294967295 : Int64))), .second, .val (.long ((oth.toInt64) &&& (4294967295 : Int64))), .second, iv ((32 : Int32) - bits), .unset] [(.int (lcmpW ((((p0.toInt64) &&& (4294967295 : Int64)).toUInt64 >>> (((32 : Int32) - bits) &&& 0x3f).toInt64.toUInt64).toInt64) ((((oth.toInt64) &&& (4294967295 : Int64)).toUInt64 >>> (((32 : Int32) - bits) &&& 0x3f).toInt64.toUInt64).toInt64)))])) t → Steps p.tables e below (s₁.setTop (entryFrame m #[(.int p0), (.int p1), (.int p2), (.int p3)] maxLocals)) t := by
      intro t kt
      refine pre7 _ ?_
      show Steps p.tables e below (T6.setTop (mkF m 44 #[iv p0, iv p1, iv p2, iv p3, iv bits, iv flip, iv oth, rv b2, iv (own_c p0 bits oth), .unset, .unset, .unset, .unset, .unset, .unset] [])) _
      refine XS.iloadN X6.here hx rfl (hb hby at_44) rfl ?_
      show Steps p.tables e below (T6.setTop (mkF m 45 #[iv p0, iv p1, iv p2, iv p3, iv bits, iv flip, iv oth, rv b2, iv (own_c p0 bits oth), .unset, .unset, .unset, .unset, .unset, .unset] [(.int p0)])) _
      refine XS.i2l X6.here hx rfl (hb hby at_45) rfl ?_
      show Steps p.tables e below (T6.setTop (mkF m 46 #[iv p0, iv p1, iv p2, iv p3, iv bits, iv flip, iv oth, rv b2, iv (own_c p0 bits oth), .unset, .unset, .unset, .unset, .unset, .unset] [(.long (p0.toInt64))])) _
      refine X6.ldc2Long hx hown (mvT hZ (hw _ (List.mem_of_getElem? (i := 24) rfl))) (g := (mkF m 46 #[iv p0, iv p1, iv p2, iv p3, iv bits, iv flip, iv oth, rv b2, iv (own_c p0 bits oth), .unset, .unset, .unset, .unset, .unset, .unset] [(.long (p0.toInt64))])) rfl (hb hby at_46) _ ?_
      show Steps p.tables e below (T6.setTop (mkF m 49 #[iv p0, iv p1, iv p2, iv p3, iv bits, iv flip, iv oth, rv b2, iv (own_c p0 bits oth), .unset, .unset, .unset, .unset, .unset, .unset] [(.long (4294967295 : Int64)), (.long (p0.toInt64))])) _
      refine XS.land X6.here hx rfl (hb hby at_49) rfl ?_
      show Steps p.tables e below (T6.setTop (mkF m 50 #[iv p0, iv p1, iv p2, iv p3, iv bits, iv flip, iv oth, rv b2, iv (own_c p0 bits oth), .unset, .unset, .unset, .unset, .unset, .unset] [(.long ((p0.toInt64) &&& (4294967295 : Int64)))])) _
      refine XS.lstore X6.here hx rfl (hb hby at_50) rfl (l' := #[iv p0, iv p1, iv p2, iv p3, iv bits, iv flip, iv oth, rv b2, iv (own_c p0 bits oth), .val (.long ((p0.toInt64) &&& (4294967295 : Int64))), .second, .unset, .unset, .unset, .unset]) rfl ?_
      show Steps p.tables e below (T6.setTop (mkF m 52 #[iv p0, iv p1, iv p2, iv p3, iv bits, iv flip, iv oth, rv b2, iv (own_c p0 bits oth), .val (.long ((p0.toInt64) &&& (4294967295 : Int64))), .second, .unset, .unset, .unset, .unset] [])) _
      refine XS.iload X6.here hx rfl (hb hby at_52) rfl ?_
      show Steps p.tables e below (T6.setTop (mkF m 54 #[iv p0, iv p1, iv p2, iv p3, iv bits, iv flip, iv oth, rv b2, iv (own_c p0 bits oth), .val (.long ((p0.toInt64) &&& (4294967295 : Int64))), .second, .unset, .unset, .unset, .unset] [(.int oth)])) _
      refine XS.i2l X6.here hx rfl (hb hby at_54) rfl ?_
      show Steps p.tables e below (T6.setTop (mkF m 55 #[iv p0, iv p1, iv p2, iv p3, iv bits, iv flip, iv oth, rv b2, iv (own_c p0 bits oth), .val (.long ((p0.toInt64) &&& (4294967295 : Int64))), .second, .unset, .unset, .unset, .unset] [(.long (oth.toInt64))])) _
      refine X6.ldc2Long hx hown (mvT hZ (hw _ (List.mem_of_getElem? (i := 24) rfl))) (g := (mkF m 55 #[iv p0, iv p1, iv p2, iv p3, iv bits, iv flip, iv oth, rv b2, iv (own_c p0 bits oth), .val (.long ((p0.toInt64) &&& (4294967295 : Int64))), .second, .unset, .unset, .unset, .unset] [(.long (oth.toInt64))])) rfl (hb hby at_55) _ ?_
      show Steps p.tables e below (T6.setTop (mkF m 58 #[iv p0, iv p1, iv p2, iv p3, iv bits, iv flip, iv oth, rv b2, iv (own_c p0 bits oth), .val (.long ((p0.toInt64) &&& (4294967295 : Int64))), .second, .unset, .unset, .unset, .unset] [(.long (4294967295 : Int64)), (.long (oth.toInt64))])) _
      refine XS.land X6.here hx rfl (hb hby at_58) rfl ?_
      show Steps p.tables e below (T6.setTop (mkF m 59 #[iv p0, iv p1, iv p2, iv p3, iv bits, iv flip, iv oth, rv b2, iv (own_c p0 bits oth), .val (.long ((p0.toInt64) &&& (4294967295 : Int64))), .second, .unset, .unset, .unset, .unset] [(.long ((oth.toInt64) &&& (4294967295 : Int64)))])) _
      refine XS.lstore X6.here hx rfl (hb hby at_59) rfl (l' := #[iv p0, iv p1, iv p2, iv p3, iv bits, iv flip, iv oth, rv b2, iv (own_c p0 bits oth), .val (.long ((p0.toInt64) &&& (4294967295 : Int64))), .second, .val (.long ((oth.toInt64) &&& (4294967295 : Int64))), .second, .unset, .unset]) rfl ?_
      show Steps p.tables e below (T6.setTop (mkF m 61 #[iv p0, iv p1, iv p2, iv p3, iv bits, iv flip, iv oth, rv b2, iv (own_c p0 bits oth), .val (.long ((p0.toInt64) &&& (4294967295 : Int64))), .second, .val (.long ((oth.toInt64) &&& (4294967295 : Int64))), .second, .unset, .unset] [])) _
      refine XS.bipush X6.here hx rfl (hb hby at_61) ?_
      show Steps p.tables e below (T6.setTop (mkF m 63 #[iv p0, iv p1, iv p2, iv p3, iv bits, iv flip, iv oth, rv b2, iv (own_c p0 bits oth), .val (.long ((p0.toInt64) &&& (4294967295 : Int64))), .second, .val (.long ((oth.toInt64) &&& (4294967295 : Int64))), .second, .unset, .unset] [(.int (32 : Int32))])) _
      refine XS.iload X6.here hx rfl (hb hby at_63) rfl ?_
      show Steps p.tables e below (T6.setTop (mkF m 65 #[iv p0, iv p1, iv p2, iv p3, iv bits, iv flip, iv oth, rv b2, iv (own_c p0 bits oth), .val (.long ((p0.toInt64) &&& (4294967295 : Int64))), .second, .val (.long ((oth.toInt64) &&& (4294967295 : Int64))), .second, .unset, .unset] [(.int bits), (.int (32 : Int32))])) _
      refine XS.isub X6.here hx rfl (hb hby at_65) rfl ?_
      show Steps p.tables e below (T6.setTop (mkF m 66 #[iv p0, iv p1, iv p2, iv p3, iv bits, iv flip, iv oth, rv b2, iv (own_c p0 bits oth), .val (.long ((p0.toInt64) &&& (4294967295 : Int64))), .second, .val (.long ((oth.toInt64) &&& (4294967295 : Int64))), .second, .unset, .unset] [(.int ((32 : Int32) - bits))])) _
      refine XS.istore X6.here hx rfl (hb hby at_66) rfl (l' := #[iv p0, iv p1, iv p2, iv p3, iv bits, iv flip, iv oth, rv b2, iv (own_c p0 bits oth), .val (.long ((p0.toInt64) &&& (4294967295 : Int64))), .second, .val (.long ((oth.toInt64) &&& (4294967295 : Int64))), .second, iv ((32 : Int32) - bits), .unset]) rfl ?_
      show Steps p.tables e below (T6.setTop (mkF m 68 #[iv p0, iv p1, iv p2, iv p3, iv bits, iv flip, iv oth, rv b2, iv (own_c p0 bits oth), .val (.long ((p0.toInt64) &&& (4294967295 : Int64))), .second, .val (.long ((oth.toInt64) &&& (4294967295 : Int64))), .second, iv ((32 : Int32) - bits), .unset] [])) _
      refine XS.lload X6.here hx rfl (hb hby at_68) rfl ?_
      show Steps p.tables e below (T6.setTop (mkF m 70 #[iv p0, iv p1, iv p2, iv p3, iv bits, iv flip, iv oth, rv b2, iv (own_c p0 bits oth), .val (.long ((p0.toInt64) &&& (4294967295 : Int64))), .second, .val (.long ((oth.toInt64) &&& (4294967295 : Int64))), .second, iv ((32 : Int32) - bits), .unset] [(.long ((p0.toInt64) &&& (4294967295 : Int64)))])) _
      refine XS.iload X6.here hx rfl (hb hby at_70) rfl ?_
      show Steps p.tables e below (T6.setTop (mkF m 72 #[iv p0, iv p1, iv p2, iv p3, iv bits, iv flip, iv oth, rv b2, iv (own_c p0 bits oth), .val (.long ((p0.toInt64) &&& (4294967295 : Int64))), .second, .val (.long ((oth.toInt64) &&& (4294967295 : Int64))), .second, iv ((32 : Int32) - bits), .unset] [(.int ((32 : Int32) - bits)), (.long ((p0.toInt64) &&& (4294967295 : Int64)))])) _
      refine XS.lushr X6.here hx rfl (hb hby at_72) rfl ?_
      show Steps p.tables e below (T6.setTop (mkF m 73 #[iv p0, iv p1, iv p2, iv p3, iv bits, iv flip, iv oth, rv b2, iv (own_c p0 bits oth), .val (.long ((p0.toInt64) &&& (4294967295 : Int64))), .second, .val (.long ((oth.toInt64) &&& (4294967295 : Int64))), .second, iv ((32 : Int32) - bits), .unset] [(.long ((((p0.toInt64) &&& (4294967295 : Int64)).toUInt64 >>> (((32 : Int32) - bits) &&& 0x3f).toInt64.toUInt64).toInt64))])) _
      refine XS.lload X6.here hx rfl (hb hby at_73) rfl ?_
      show Steps p.tables e below (T6.setTop (mkF m 75 #[iv p0, iv p1, iv p2, iv p3, iv bits, iv flip, iv oth, rv b2, iv (own_c p0 bits oth), .val (.long ((p0.toInt64) &&& (4294967295 : Int64))), .second, .val (.long ((oth.toInt64) &&& (4294967295 : Int64))), .second, iv ((32 : Int32) - bits), .unset] [(.long ((oth.toInt64) &&& (4294967295 : Int64))), (.long ((((p0.toInt64) &&& (4294967295 : Int64)).toUInt64 >>> (((32 : Int32) - bits) &&& 0x3f).toInt64.toUInt64).toInt64))])) _
      refine XS.iload X6.here hx rfl (hb hby at_75) rfl ?_
      show Steps p.tables e below (T6.setTop (mkF m 77 #[iv p0, iv p1, iv p2, iv p3, iv bits, iv flip, iv oth, rv b2, iv (own_c p0 bits oth), .val (.long ((p0.toInt64) &&& (4294967295 : Int64))), .second, .val (.long ((oth.toInt64) &&& (4294967295 : Int64))), .second, iv ((32 : Int32) - bits), .unset] [(.int ((32 : Int32) - bits)), (.long ((oth.toInt64) &&& (4294967295 : Int64))), (.long ((((p0.toInt64) &&& (4294967295 : Int64)).toUInt64 >>> (((32 : Int32) - bits) &&& 0x3f).toInt64.toUInt64).toInt64))])) _
      refine XS.lushr X6.here hx rfl (hb hby at_77) rfl ?_
      show Steps p.tables e below (T6.setTop (mkF m 78 #[iv p0, iv p1, iv p2, iv p3, iv bits, iv flip, iv oth, rv b2, iv (own_c p0 bits oth), .val (.long ((p0.toInt64) &&& (4294967295 : Int64))), .second, .val (.long ((oth.toInt64) &&& (4294967295 : Int64))), .second, iv ((32 : Int32) - bits), .unset] [(.long ((((oth.toInt64) &&& (4294967295 : Int64)).toUInt64 >>> (((32 : Int32) - bits) &&& 0x3f).toInt64.toUInt64).toInt64)), (.long ((((p0.toInt64) &&& (4294967295 : Int64)).toUInt64 >>> (((32 : Int32) - bits) &&& 0x3f).toInt64.toUInt64).toInt64))])) _
      refine XS.lcmp X6.here hx rfl (hb hby at_78) rfl ?_
      exact kt
    by_cases hc79 : (lcmpW ((((p0.toInt64) &&& (4294967295 : Int64)).toUInt64 >>> (((32 : Int32) - bits) &&& 0x3f).toInt64.toUInt64).toInt64) ((((oth.toInt64) &&& (4294967295 : Int64)).toUInt64 >>> (((32 : Int32) - bits) &&& 0x3f).toInt64.toUInt64).toInt64)) = (0 : Int32)
    · have pre9 : ∀ t, Steps p.tables e below (T6.setTop (mkF m 87 #[iv p0, iv p1, iv p2, iv p3, iv bits, iv flip, iv oth, rv b2, iv (own_c p0 bits oth), .val (.long ((p0.toInt64) &&& (4294967295 : Int64))), .second, .val (.long ((oth.toInt64) &&& (4294967295 : Int64))), .second, iv ((32 : Int32) - bits), .unset] [(.int (1 : Int32))])) t → Steps p.tables e below (s₁.setTop (entryFrame m #[(.int p0), (.int p1), (.int p2), (.int p3)] maxLocals)) t := by
        intro t kt
        refine pre8 _ ?_
        show Steps p.tables e below (T6.setTop (mkF m 79 #[iv p0, iv p1, iv p2, iv p3, iv bits, iv flip, iv oth, rv b2, iv (own_c p0 bits oth), .val (.long ((p0.toInt64) &&& (4294967295 : Int64))), .second, .val (.long ((oth.toInt64) &&& (4294967295 : Int64))), .second, iv ((32 : Int32) - bits), .unset] [(.int (lcmpW ((((p0.toInt64) &&& (4294967295 : Int64)).toUInt64 >>> (((32 : Int32) - bits) &&& 0x3f).toInt64.toUInt64).toInt64) ((((oth.toInt64) &&& (4294967295 : Int64)).toUInt64 >>> (((32 : Int32) - bits) &&& 0x3f).toInt64.toUInt64).toInt64)))])) _
        refine XS.ifNo X6.here hx rfl (hb hby at_79) rfl ((if0 _ _).trans (teq hc79).2) ?_
        show Steps p.tables e below (T6.setTop (mkF m 82 #[iv p0, iv p1, iv p2, iv p3, iv bits, iv flip, iv oth, rv b2, iv (own_c p0 bits oth), .val (.long ((p0.toInt64) &&& (4294967295 : Int64))), .second, .val (.long ((oth.toInt64) &&& (4294967295 : Int64))), .second, iv ((32 : Int32) - bits), .unset] [])) _
        refine XS.iconst X6.here hx rfl (hb hby at_82) ?_
        show Steps p.tables e below (T6.setTop (mkF m 83 #[iv p0, iv p1, iv p2, iv p3, iv bits, iv flip, iv oth, rv b2, iv (own_c p0 bits oth), .val (.long ((p0.toInt64) &&& (4294967295 : Int64))), .second, .val (.long ((oth.toInt64) &&& (4294967295 : Int64))), .second, iv ((32 : Int32) - bits), .unset] [(.int (1 : Int32))])) _
        refine XS.goto X6.here hx rfl (pc0 := 83) (pc' := 87) rfl (hb hby at_83) (by decide) (by decide) ?_
        exact kt
      exact ⟨(1 : Int32), Or.inl ⟨hc79, rfl⟩, pre9⟩
    · have pre10 : ∀ t, Steps p.tables e below (T6.setTop (mkF m 87 #[iv p0, iv p1, iv p2, iv p3, iv bits, iv flip, iv oth, rv b2, iv (own_c p0 bits oth), .val (.long ((p0.toInt64) &&& (4294967295 : Int64))), .second, .val (.long ((oth.toInt64) &&& (4294967295 : Int64))), .second, iv ((32 : Int32) - bits), .unset] [(.int (0 : Int32))])) t → Steps p.tables e below (s₁.setTop (entryFrame m #[(.int p0), (.int p1), (.int p2), (.int p3)] maxLocals)) t := by
        intro t kt
        refine pre8 _ ?_
        show Steps p.tables e below (T6.setTop (mkF m 79 #[iv p0, iv p1, iv p2, iv p3, iv bits, iv flip, iv oth, rv b2, iv (own_c p0 bits oth), .val (.long ((p0.toInt64) &&& (4294967295 : Int64))), .second, .val (.long ((oth.toInt64) &&& (4294967295 : Int64))), .second, iv ((32 : Int32) - bits), .unset] [(.int (lcmpW ((((p0.toInt64) &&& (4294967295 : Int64)).toUInt64 >>> (((32 : Int32) - bits) &&& 0x3f).toInt64.toUInt64).toInt64) ((((oth.toInt64) &&& (4294967295 : Int64)).toUInt64 >>> (((32 : Int32) - bits) &&& 0x3f).toInt64.toUInt64).toInt64)))])) _
        refine XS.ifYes X6.here hx rfl (pc0 := 79) (pc' := 86) rfl (hb hby at_79) rfl ((if0 _ _).trans (feq hc79).2) (by decide) (by decide) ?_
        show Steps p.tables e below (T6.setTop (mkF m 86 #[iv p0, iv p1, iv p2, iv p3, iv bits, iv flip, iv oth, rv b2, iv (own_c p0 bits oth), .val (.long ((p0.toInt64) &&& (4294967295 : Int64))), .second, .val (.long ((oth.toInt64) &&& (4294967295 : Int64))), .second, iv ((32 : Int32) - bits), .unset] [])) _
        refine XS.iconst X6.here hx rfl (hb hby at_86) ?_
        exact kt
      exact ⟨(0 : Int32), Or.inr (⟨hc79, rfl⟩), pre10⟩
  have pre13 : ∀ t, Steps p.tables e below (T6.setTop (mkF m 93 #[iv p0, iv p1, iv p2, iv p3, iv bits, iv flip, iv oth, rv b2, iv (own_c p0 bits oth), .val (.long ((p0.toInt64) &&& (4294967295 : Int64))), .second, .val (.long ((oth.toInt64) &&& (4294967295 : Int64))), .second, iv ((32 : Int32) - bits), iv exp] [(.int exp), (.int (own_c p0 bits oth))])) t → Steps p.tables e below (s₁.setTop (entryFrame m #[(.int p0), (.int p1), (.int p2), (.int p3)] maxLocals)) t := by
    intro t kt
    refine pre12 _ ?_
    show Steps p.tables e below (T6.setTop (mkF m 87 #[iv p0, iv p1, iv p2, iv p3, iv bits, iv flip, iv oth, rv b2, iv (own_c p0 bits oth), .val (.long ((p0.toInt64) &&& (4294967295 : Int64))), .second, .val (.long ((oth.toInt64) &&& (4294967295 : Int64))), .second, iv ((32 : Int32) - bits), .unset] [(.int exp)])) _
    refine XS.istore X6.here hx rfl (hb hby at_87) rfl (l' := #[iv p0, iv p1, iv p2, iv p3, iv bits, iv flip, iv oth, rv b2, iv (own_c p0 bits oth), .val (.long ((p0.toInt64) &&& (4294967295 : Int64))), .second, .val (.long ((oth.toInt64) &&& (4294967295 : Int64))), .second, iv ((32 : Int32) - bits), iv exp]) rfl ?_
    show Steps p.tables e below (T6.setTop (mkF m 89 #[iv p0, iv p1, iv p2, iv p3, iv bits, iv flip, iv oth, rv b2, iv (own_c p0 bits oth), .val (.long ((p0.toInt64) &&& (4294967295 : Int64))), .second, .val (.long ((oth.toInt64) &&& (4294967295 : Int64))), .second, iv ((32 : Int32) - bits), iv exp] [])) _
    refine XS.iload X6.here hx rfl (hb hby at_89) rfl ?_
    show Steps p.tables e below (T6.setTop (mkF m 91 #[iv p0, iv p1, iv p2, iv p3, iv bits, iv flip, iv oth, rv b2, iv (own_c p0 bits oth), .val (.long ((p0.toInt64) &&& (4294967295 : Int64))), .second, .val (.long ((oth.toInt64) &&& (4294967295 : Int64))), .second, iv ((32 : Int32) - bits), iv exp] [(.int (own_c p0 bits oth))])) _
    refine XS.iload X6.here hx rfl (hb hby at_91) rfl ?_
    exact kt
  by_cases hc93 : (own_c p0 bits oth) = exp
  · have pre14 : ∀ t, Steps p.tables e below (T6.setTop (mkF m 101 #[iv p0, iv p1, iv p2, iv p3, iv bits, iv flip, iv oth, rv b2, iv (own_c p0 bits oth), .val (.long ((p0.toInt64) &&& (4294967295 : Int64))), .second, .val (.long ((oth.toInt64) &&& (4294967295 : Int64))), .second, iv ((32 : Int32) - bits), iv exp] [(.int (1 : Int32))])) t → Steps p.tables e below (s₁.setTop (entryFrame m #[(.int p0), (.int p1), (.int p2), (.int p3)] maxLocals)) t := by
      intro t kt
      refine pre13 _ ?_
      show Steps p.tables e below (T6.setTop (mkF m 93 #[iv p0, iv p1, iv p2, iv p3, iv bits, iv flip, iv oth, rv b2, iv (own_c p0 bits oth), .val (.long ((p0.toInt64) &&& (4294967295 : Int64))), .second, .val (.long ((oth.toInt64) &&& (4294967295 : Int64))), .second, iv ((32 : Int32) - bits), iv exp] [(.int exp), (.int (own_c p0 bits oth))])) _
      refine XS.icmpNo X6.here hx rfl (hb hby at_93) rfl (teq hc93).2 ?_
      show Steps p.tables e below (T6.setTop (mkF m 96 #[iv p0, iv p1, iv p2, iv p3, iv bits, iv flip, iv oth, rv b2, iv (own_c p0 bits oth), .val (.long ((p0.toInt64) &&& (4294967295 : Int64))), .second, .val (.long ((oth.toInt64) &&& (4294967295 : Int64))), .second, iv ((32 : Int32) - bits), iv exp] [])) _
      refine XS.iconst X6.here hx rfl (hb hby at_96) ?_
      show Steps p.tables e below (T6.setTop (mkF m 97 #[iv p0, iv p1, iv p2, iv p3, iv bits, iv flip, iv oth, rv b2, iv (own_c p0 bits oth), .val (.long ((p0.toInt64) &&& (4294967295 : Int64))), .second, .val (.long ((oth.toInt64) &&& (4294967295 : Int64))), .second, iv ((32 : Int32) - bits), iv exp] [(.int (1 : Int32))])) _
      refine XS.goto X6.here hx rfl (pc0 := 97) (pc' := 101) rfl (hb hby at_97) (by decide) (by decide) ?_
      exact kt
    obtain ⟨fs, hr, hrun, hended, hW, hsame⟩ := X6.leave (v := some (.int (1 : Int32))) (fun h => by rw [Bd.returns] at h; cases h)
    refine ⟨_, _, pre14 _ ?_, hrun, hended, _, _, rfl, ?_, ⟨_, rfl⟩, hW, hsame.mono (by decide) (by decide)⟩
    · show Steps p.tables e below (T6.setTop (mkF m 101 #[iv p0, iv p1, iv p2, iv p3, iv bits, iv flip, iv oth, rv b2, iv (own_c p0 bits oth), .val (.long ((p0.toInt64) &&& (4294967295 : Int64))), .second, .val (.long ((oth.toInt64) &&& (4294967295 : Int64))), .second, iv ((32 : Int32) - bits), iv exp] [(.int (1 : Int32))])) _
      exact retN X6 hx (t := .boolean) Bd.returns (by simp) (hb hby at_101) hr
    · show Q0 Z p0 p1 p2 p3 h0 n0 _ T6.heap _
      rw [hh6]
      exact ⟨rfl, N6⟩
  · have pre15 : ∀ t, Steps p.tables e below (T6.setTop (mkF m 101 #[iv p0, iv p1, iv p2, iv p3, iv bits, iv flip, iv oth, rv b2, iv (own_c p0 bits oth), .val (.long ((p0.toInt64) &&& (4294967295 : Int64))), .second, .val (.long ((oth.toInt64) &&& (4294967295 : Int64))), .second, iv ((32 : Int32) - bits), iv exp] [(.int (0 : Int32))])) t → Steps p.tables e below (s₁.setTop (entryFrame m #[(.int p0), (.int p1), (.int p2), (.int p3)] maxLocals)) t := by
      intro t kt
      refine pre13 _ ?_
      show Steps p.tables e below (T6.setTop (mkF m 93 #[iv p0, iv p1, iv p2, iv p3, iv bits, iv flip, iv oth, rv b2, iv (own_c p0 bits oth), .val (.long ((p0.toInt64) &&& (4294967295 : Int64))), .second, .val (.long ((oth.toInt64) &&& (4294967295 : Int64))), .second, iv ((32 : Int32) - bits), iv exp] [(.int exp), (.int (own_c p0 bits oth))])) _
      refine XS.icmpYes X6.here hx rfl (pc0 := 93) (pc' := 100) rfl (hb hby at_93) rfl (feq hc93).2 (by decide) (by decide) ?_
      show Steps p.tables e below (T6.setTop (mkF m 100 #[iv p0, iv p1, iv p2, iv p3, iv bits, iv flip, iv oth, rv b2, iv (own_c p0 bits oth), .val (.long ((p0.toInt64) &&& (4294967295 : Int64))), .second, .val (.long ((oth.toInt64) &&& (4294967295 : Int64))), .second, iv ((32 : Int32) - bits), iv exp] [])) _
      refine XS.iconst X6.here hx rfl (hb hby at_100) ?_
      exact kt
    exfalso
    refine hc93 ?_
    rw [own_main p0 oth bits (h_bits ▸ own_rem p1)]
    rcases hexp with ⟨c1, rfl⟩ | ⟨c1, rfl⟩
    · rw [if_pos c1]
    · rw [if_neg c1]
set_option maxRecDepth 65536 in
set_option maxHeartbeats 40000000 in
theorem comes_1 {Post : Tables → Env → Array Value → State → Outcome → State → Prop} (hpost : ∀ tb e args s v u, (limb_1_1.after args s (.returned v) u = true ∧ limb_1_2.after args s (.returned v) u = true ∧ True) → FrameEnd s (.returned v) u (Jvm.fieldLocs frame_1_writes args s ++ Jvm.arrayLocs frame_1_arrays args s ++ Jvm.staticLocs frame_1_statics s) 16 128 → Post tb e args s (.returned v) u) :
    ArmFor flags0 classFile x code maxLocals ret World_1 tables_1 room_1 Calls_1 rest_1 Pre_1 Post := by
  intro l hfl _ _ p e ha hc hk s m args below hf hA hF happ hP
  obtain ⟨hcalls, hrest, hpre⟩ := hP
  obtain ⟨-, -, -, hnamed, -, -, -, hat⟩ := (Spec.applies_iff hf).mp happ
  obtain ⟨hg, hn⟩ := and_e (Cond.before_iff.mp (show (Jvm.Cond.and given_1 narrow_1).before args s = true from hpre))
  obtain ⟨gg1, gg2⟩ := and_e hg
  obtain ⟨gg3, gg4⟩ := and_e gg2
  obtain ⟨gg5, gg6⟩ := and_e gg4
  obtain ⟨gg7, gg8⟩ := and_e gg6
  obtain ⟨w0, w1, w2, w3, rfl⟩ : ∃ w0 w1 w2 w3 : Value, args = #[w0, w1, w2, w3] := by
    have hs : args.size = 4 := by simpa [Cond.value, given_1] using gg1
    obtain ⟨L⟩ := args
    match L, hs with
    | [w0, w1, w2, w3], _ => exact ⟨w0, w1, w2, w3, rfl⟩
  have hw := fun d (hd : d ∈ tables_1) => atoms_spec (ws := Jvm.Cond.code x code maxLocals ret :: tables_1) hat d (List.mem_cons_of_mem _ hd)
  have hfit : Fit s := fun {y c} hc i hi => by
    obtain ⟨ha, rfl⟩ := Array.getElem?_eq_some_iff.mp hc
    have q := List.all_eq_true.mp ((Array.all_eq_true_iff_forall_mem.mp hF) _ (Array.getElem_mem ha)) i (List.mem_range.mpr hi)
    simpa [Array.getElem?_eq_getElem hi] using q
  obtain ⟨i0, ei0⟩ := is_v gg3
  obtain rfl : w0 = (.int i0) := Option.some.inj ei0
  obtain ⟨i1, ei1⟩ := is_v gg5
  obtain rfl : w1 = (.int i1) := Option.some.inj ei1
  obtain ⟨i2, ei2⟩ := is_v gg7
  obtain rfl : w2 = (.int i2) := Option.some.inj ei2
  obtain ⟨i3, ei3⟩ := is_v gg8
  obtain rfl : w3 = (.int i3) := Option.some.inj ei3
  obtain ⟨n, o, h1, h2, h3, _, L, rfl, ⟨rfl, N⟩, hq⟩ := rm0 l s _ hw tables_1 i0 i1 i2 i3 s.heap s.heap.size (Nat.le_refl _) p e ha hc hk s m _ below hf ((Spec.applies_iff_loose hf).mp happ).1 ⟨rfl, State.Warmed39.refl s, rfl⟩ trivial
  refine ⟨n, _, h1, h2, h3, hpost _ _ _ _ _ _ ⟨Cond.after_iff.mpr rfl, Cond.after_iff.mpr (eq_i res_at (Term.int_eval (1)) rfl), trivial⟩ ⟨hq.1, hq.2.1, (hq.2.2.sift fun y hy => Or.inr (N y hy)).mono (by decide) (by decide)⟩⟩
theorem main_1_1 : Claimed_1_1 := comes_1 fun _ _ _ _ _ _ h hF => ⟨h.1, hF⟩
theorem main_1_2 : Claimed_1_2 := comes_1 fun _ _ _ _ _ _ h hF => ⟨h.2.1, hF⟩
end Jvm.Pilot.@@N@@
namespace Jvm.Pilot.@@N@@
open Jvm Jvm.ClassFile Sem Op Lib Jvm.Free Jvm.Stand Jvm.Pilot.@@N@@.Jvm.D
/-! MADE BY PROGRAM (witnessworld.py) out of the Statement's table words and the real class files: 10 classes; the members and pool entries that the words name. The judged class is class 1, her method 1. -/
namespace start1
open Jvm.ClassFile
def u (s : String) : CpInfo := .utf8 (stringToUtf16 s)
/-- a pool by its gaps: so many unusable entries, then the entry; so many at the end -/
def gap : Nat → List CpInfo → List CpInfo
  | 0, r => r
  | n + 1, r => .unusable :: gap n r
def poolList (es : List (Nat × CpInfo)) (last : Nat) : List CpInfo := es.foldr (fun e r => gap e.1 (e.2 :: r)) (gap last [])
def pool (es : List (Nat × CpInfo)) (last : Nat) : Array CpInfo := ⟨poolList es last⟩
def fileOf (pool : Array CpInfo) (this : Nat) (attrs : Array Attribute := #[]) (ms : Array MethodInfo := #[]) (fl : Nat := 33) (sup : Nat := 0) (ifs : Array Nat := #[]) (fds : Array FieldInfo := #[]) : ClassFile where
  minorVersion := 0
  majorVersion := 65
  constantPool := pool
  accessFlags := fl
  thisClass := this
  superClass := sup
  interfaces := ifs
  fields := fds
  methods := ms
  attributes := attrs
def plain (name : String) (sup : Option ClassId) : Class where
  name := name
  kind := .ordinary
  loader := none
  accessFlags := 33
  super := sup
  interfaces := #[]
  cf := none
  fields := #[]
  methods := #[]
  instanceTypes := #[]
  staticTypes := #[]
  resolved := #[]
  callSites := []
  init := .initialized
  statics := none
  mirror := none

def pool0 : Array CpInfo := pool [(5, u "<init>"), (0, u "()V"), (1, .class_ 10), (1, u "java/lang/Object")] 113

def k0c0 : Code := { maxStack := 0, maxLocals := 1, code := object_method_1_code, exceptionTable := #[], attributes := #[] }
def k0m0 : Method := { name := "<init>", desc := "()V", sig := { parameters := [], returnType := none }, accessFlags := 1, code := some k0c0 }
/-- java/lang/Object -/
def k0 : Class := { plain "java/lang/Object" none with
  accessFlags := 33
  interfaces := #[]
  cf := some (fileOf pool0 8 #[] #[{ accessFlags := 1, nameIndex := 5, descriptorIndex := 6, attributes := #[] }] 33 0 #[] #[])
  fields := #[]
  methods := #[k0m0]
  instanceTypes := #[]
  staticTypes := #[]
  resolved := Array.replicate 124 none
  statics := none }

def pool1 : Array CpInfo := pool [(2, .class_ 4), (1, u "java/lang/Object"), (0, u "<init>"), (0, u "()V"), (0, .integer 2147483647), (0, .class_ 9), (0, u "com/example/treewarden/treewarden/acl/IpRange"), (0, .methodref 8 11), (0, .nameAndType 5 12), (0, u "(II)V"), (0, .methodref 8 14), (0, .nameAndType 15 16), (0, u "contains"), (0, u "(I)Z"), (0, .long 4294967295), (1, .class_ 20), (0, u "com/example/treewarden/treewarden/acl/IpRangeContainsPinLaw"), (2, u "law"), (0, u "(IIII)Z")] 3

def k1m0 : Method := { name := "<init>", desc := "()V", sig := { parameters := [], returnType := none }, accessFlags := 1, code := none }
def k1c1 : Code := { maxStack := 5, maxLocals := 15, code := code, exceptionTable := #[], attributes := #[] }
def k1m1 : Method := { name := "law", desc := "(IIII)Z", sig := { parameters := [.int, .int, .int, .int], returnType := some .boolean }, accessFlags := 9, code := some k1c1 }
/-- com/example/treewarden/treewarden/acl/IpRangeContainsPinLaw -/
def k1 : Class := { plain "com/example/treewarden/treewarden/acl/IpRangeContainsPinLaw" (some 0) with
  accessFlags := 49
  interfaces := #[]
  cf := some (fileOf pool1 19 #[] #[{ accessFlags := 1, nameIndex := 5, descriptorIndex := 6, attributes := #[] }, { accessFlags := 9, nameIndex := 23, descriptorIndex := 24, attributes := #[] }] 49 2 #[] #[])
  fields := #[]
  methods := #[k1m0, k1m1]
  instanceTypes := #[]
  staticTypes := #[]
  resolved := Array.replicate 28 none
  statics := none }

def pool2 : Array CpInfo := pool [(1, .methodref 2 3), (0, .class_ 4), (0, .nameAndType 5 6), (0, u "java/lang/Object"), (0, u "<init>"), (0, u "()V"), (0, .class_ 8), (0, u "java/lang/Record")] 13

def k2c0 : Code := { maxStack := 1, maxLocals := 1, code := jdk_30_method_1_code, exceptionTable := #[], attributes := #[] }
def k2m0 : Method := { name := "<init>", desc := "()V", sig := { parameters := [], returnType := none }, accessFlags := 4, code := some k2c0 }
/-- java/lang/Record -/
def k2 : Class := { plain "java/lang/Record" (some 0) with
  accessFlags := 1057
  interfaces := #[]
  cf := some (fileOf pool2 7 #[] #[{ accessFlags := 4, nameIndex := 5, descriptorIndex := 6, attributes := #[] }] 1057 2 #[] #[])
  fields := #[]
  methods := #[k2m0]
  instanceTypes := #[]
  staticTypes := #[]
  resolved := Array.replicate 22 none
  statics := none }

def pool3 : Array CpInfo := pool [(1, .methodref 2 3), (0, .class_ 4), (0, .nameAndType 5 6), (0, u "java/lang/Record"), (0, u "<init>"), (0, u "()V"), (0, .fieldref 8 9), (0, .class_ 10), (0, .nameAndType 11 12), (0, u "com/example/treewarden/treewarden/acl/IpRange"), (0, u "address"), (0, u "I"), (0, .fieldref 8 14), (0, .nameAndType 15 12), (0, u "bits"), (11, u "(II)V"), (67, u "SCHEME"), (0, u "Ljava/lang/String;"), (3, u "ADDRESS_BITS"), (9, u "contains"), (0, u "(I)Z")] 35

def k3c0 : Code := { maxStack := 2, maxLocals := 3, code := prog_2_method_1_code, exceptionTable := #[], attributes := #[] }
def k3m0 : Method := { name := "<init>", desc := "(II)V", sig := { parameters := [.int, .int], returnType := none }, accessFlags := 1, code := some k3c0 }
def k3c1 : Code := { maxStack := 3, maxLocals := 3, code := prog_2_method_4_code, exceptionTable := #[], attributes := #[] }
def k3m1 : Method := { name := "contains", desc := "(I)Z", sig := { parameters := [.int], returnType := some .boolean }, accessFlags := 1, code := some k3c1 }
/-- com/example/treewarden/treewarden/acl/IpRange -/
def k3 : Class := { plain "com/example/treewarden/treewarden/acl/IpRange" (some 2) with
  accessFlags := 49
  interfaces := #[]
  cf := some (fileOf pool3 8 #[] #[{ accessFlags := 1, nameIndex := 5, descriptorIndex := 27, attributes := #[] }, { accessFlags := 1, nameIndex := 110, descriptorIndex := 111, attributes := #[] }] 49 2 #[] #[{ accessFlags := 18, nameIndex := 11, descriptorIndex := 12, attributes := #[] }, { accessFlags := 18, nameIndex := 15, descriptorIndex := 12, attributes := #[] }, { accessFlags := 25, nameIndex := 95, descriptorIndex := 96, attributes := #[] }, { accessFlags := 26, nameIndex := 100, descriptorIndex := 12, attributes := #[] }])
  fields := #[{ name := "address", type := .int, accessFlags := 18, slot := 0, constantValue := 0 }, { name := "bits", type := .int, accessFlags := 18, slot := 1, constantValue := 0 }, { name := "SCHEME", type := (.object "java/lang/String"), accessFlags := 25, slot := 0, constantValue := 0 }, { name := "ADDRESS_BITS", type := .int, accessFlags := 26, slot := 1, constantValue := 0 }]
  methods := #[k3m0, k3m1]
  instanceTypes := #[.int, .int]
  staticTypes := #[(.object "java/lang/String"), .int]
  resolved := Array.replicate 147 none
  statics := none }

def pool4 : Array CpInfo := pool [(1, u "java/lang/Cloneable"), (0, .class_ 1), (0, u "java/lang/Object"), (0, .class_ 3)] 3

/-- java/lang/Cloneable -/
def k4 : Class := { plain "java/lang/Cloneable" (some 0) with
  accessFlags := 1537
  interfaces := #[]
  cf := some (fileOf pool4 2 #[] #[] 1537 4 #[] #[])
  fields := #[]
  methods := #[]
  instanceTypes := #[]
  staticTypes := #[]
  resolved := Array.replicate 8 none
  statics := none }

def pool5 : Array CpInfo := pool [(1, u "java/io/Serializable"), (0, .class_ 1), (0, u "java/lang/Object"), (0, .class_ 3)] 3

/-- java/io/Serializable -/
def k5 : Class := { plain "java/io/Serializable" (some 0) with
  accessFlags := 1537
  interfaces := #[]
  cf := some (fileOf pool5 2 #[] #[] 1537 4 #[] #[])
  fields := #[]
  methods := #[]
  instanceTypes := #[]
  staticTypes := #[]
  resolved := Array.replicate 8 none
  statics := none }

/-- the primitive byte -/
def k6 : Class := { plain "byte" none with kind := .primitive 'B', accessFlags := 0x411 }
/-- [B -/
def k7 : Class := { plain "[B" (some 0) with kind := .array 6 .byte, interfaces := #[4, 5], accessFlags := 1041 }

/-- the primitive int -/
def k8 : Class := { plain "int" none with kind := .primitive 'I', accessFlags := 0x411 }
/-- [I -/
def k9 : Class := { plain "[I" (some 0) with kind := .array 8 .int, interfaces := #[4, 5], accessFlags := 1041 }

def heap : Heap := #[]
def classes : Array Class := #[k0, k1, k2, k3, k4, k5, k6, k7, k8, k9]
def interned : List (Array UInt16 × Addr) := []
def slotsUsed : Nat := 0
def theMethod : MethodId := ⟨1, 1⟩
def args0 : Array Value := #[.int 5, .int 6, .int 7, .int 8]
def aboutOver (below : List Frame) : State where
  vm := { classes := classes, interned := interned.toArray }
  heap := heap
  slotsUsed := slotsUsed
  threads := #[{ frames := .invoking theMethod args0 :: below }]
def below0 : List Frame := [.native { method := ⟨0, 0⟩, args := #[] }]
def about1 : State := aboutOver below0
def p0 : Program := .bare "" "" ""
def e0 : Env := launch0.env 0 0 0
theorem w_frames : about1.frames = Frame.invoking theMethod args0 :: below0 := rfl
set_option maxRecDepth 65536 in
theorem w_args : argsFit about1.vm theMethod args0 = true := by decide +kernel
set_option maxRecDepth 65536 in
theorem w_heap : heapFits about1 = true := by decide +kernel
set_option maxRecDepth 65536 in
theorem w_runnable : about1.curStatus? = some .runnable := by decide +kernel
set_option maxRecDepth 65536 in
theorem w_alone : about1.alone = true := by decide +kernel
set_option maxRecDepth 65536 in
theorem w_named : about1.methodNamed? x = some theMethod := by decide +kernel
set_option maxRecDepth 65536 in
theorem w_hears : about1.hears theMethod below0 = true := by decide +kernel
set_option maxRecDepth 65536 in
theorem w_ripe : about1.ripe theMethod args0 below0 = true := by decide +kernel
theorem w_running : about1.status = .running := rfl
set_option maxRecDepth 65536 in
theorem w_room : about1.hasRoom e0.platform room_1 = true :=
  launch0.hasRoom_least _ room_1 (by decide +kernel) (by decide +kernel) (by decide +kernel) (by decide +kernel) (by decide +kernel) (by decide +kernel)
theorem allAtoms_all (ts : List Jvm.Cond) (a : Array Jvm.Value) (st : Jvm.State) : (allAtoms ts).before a st = ts.all (fun c => c.before a st) := by
  induction ts with
  | nil => rfl
  | cons c t ih =>
    show (Jvm.Cond.and c (allAtoms t)).before a st = _
    rw [Jvm.Cond.before_and, ih, List.all_cons]
def words1 : List Jvm.Cond := Jvm.Cond.code x code maxLocals ret :: tables_1
/-- a 'code' word, met by the world's own term for the bytes: nothing is compared byte by byte -/
theorem code_word {y : MethodName} {bytes : ByteArray} {mx : Nat} {rt : Option FieldType} {a : Array Value} {s : State} {m : MethodId} {meth : Method} {c : Code} (h1 : s.methodNamed? y = some m) (h2 : s.vm.method? m = some meth) (h3 : meth.code = some c) (h4 : c.code = bytes)
    (h5 : (c.maxLocals == mx && c.exceptionTable.isEmpty && decide (c.maxStack ≤ mostOperands) && decide (meth.sig.returnType = rt) && !meth.locks && decide (parseMethodDescriptor y.desc = some meth.sig)) = true) : (Jvm.Cond.code y bytes mx rt).before a s = true := by
  simp only [Bool.and_eq_true, beq_iff_eq, Bool.not_eq_true', decide_eq_true_eq] at h5
  obtain ⟨⟨⟨⟨⟨g1, g2⟩, g3⟩, g4⟩, g5⟩, g6⟩ := h5
  simp [Cond.before, Cond.holds, Cond.value, h1, h2, h3, h4, g1, g2, g3, g4, g5, g6]
def isCode : Jvm.Cond → Bool
  | .code _ _ _ _ => true
  | _ => false
theorem all_split {L : List Jvm.Cond} {P : Jvm.Cond → Bool} (h1 : L.all (fun c => isCode c || P c) = true) (h2 : ∀ c ∈ L.filter isCode, P c = true) : L.all P = true := by
  refine List.all_eq_true.mpr fun c hc => ?_
  have h := List.all_eq_true.mp h1 c hc
  rcases Bool.eq_false_or_eq_true (isCode c) with hi | hi
  · exact h2 c (List.mem_filter.mpr ⟨hc, hi⟩)
  · simpa [hi] using h
set_option maxRecDepth 65536 in
theorem w_c0 : (Jvm.Cond.code x code maxLocals ret).before args0 about1 = true := code_word (m := ⟨1, 1⟩) (meth := k1m1) (c := k1c1) (by decide +kernel) rfl rfl rfl (by decide +kernel)
set_option maxRecDepth 65536 in
theorem w_c1 : (Jvm.Cond.code ({ cls := "com/example/treewarden/treewarden/acl/IpRange", name := "<init>", desc := "(II)V" } : Jvm.MethodName) prog_2_method_1_code (3 : Nat) (Option.none : Option Jvm.ClassFile.FieldType)).before args0 about1 = true := code_word (m := ⟨3, 0⟩) (meth := k3m0) (c := k3c0) (by decide +kernel) rfl rfl rfl (by decide +kernel)
set_option maxRecDepth 65536 in
theorem w_c2 : (Jvm.Cond.code ({ cls := "java/lang/Record", name := "<init>", desc := "()V" } : Jvm.MethodName) jdk_30_method_1_code (1 : Nat) (Option.none : Option Jvm.ClassFile.FieldType)).before args0 about1 = true := code_word (m := ⟨2, 0⟩) (meth := k2m0) (c := k2c0) (by decide +kernel) rfl rfl rfl (by decide +kernel)
set_option maxRecDepth 65536 in
theorem w_c3 : (Jvm.Cond.code ({ cls := "java/lang/Object", name := "<init>", desc := "()V" } : Jvm.MethodName) object_method_1_code (1 : Nat) (Option.none : Option Jvm.ClassFile.FieldType)).before args0 about1 = true := code_word (m := ⟨0, 0⟩) (meth := k0m0) (c := k0c0) (by decide +kernel) rfl rfl rfl (by decide +kernel)
set_option maxRecDepth 65536 in
theorem w_c4 : (Jvm.Cond.code ({ cls := "com/example/treewarden/treewarden/acl/IpRange", name := "contains", desc := "(I)Z" } : Jvm.MethodName) prog_2_method_4_code (3 : Nat) (Option.some Jvm.ClassFile.FieldType.boolean)).before args0 about1 = true := code_word (m := ⟨3, 1⟩) (meth := k3m1) (c := k3c1) (by decide +kernel) rfl rfl rfl (by decide +kernel)
def codes1 : List Jvm.Cond := [Jvm.Cond.code x code maxLocals ret, Jvm.Cond.code ({ cls := "com/example/treewarden/treewarden/acl/IpRange", name := "<init>", desc := "(II)V" } : Jvm.MethodName) prog_2_method_1_code (3 : Nat) (Option.none : Option Jvm.ClassFile.FieldType), Jvm.Cond.code ({ cls := "java/lang/Record", name := "<init>", desc := "()V" } : Jvm.MethodName) jdk_30_method_1_code (1 : Nat) (Option.none : Option Jvm.ClassFile.FieldType), Jvm.Cond.code ({ cls := "java/lang/Object", name := "<init>", desc := "()V" } : Jvm.MethodName) object_method_1_code (1 : Nat) (Option.none : Option Jvm.ClassFile.FieldType), Jvm.Cond.code ({ cls := "com/example/treewarden/treewarden/acl/IpRange", name := "contains", desc := "(I)Z" } : Jvm.MethodName) prog_2_method_4_code (3 : Nat) (Option.some Jvm.ClassFile.FieldType.boolean)]
set_option maxRecDepth 65536 in
theorem codes_eq : words1.filter isCode = codes1 := rfl
theorem w_codes : ∀ c ∈ words1.filter isCode, c.before args0 about1 = true := by
  rw [codes_eq]
  intro c hc
  simp only [codes1, List.mem_cons, List.not_mem_nil, or_false] at hc
  rcases hc with rfl | rfl | rfl | rfl | rfl
  · exact w_c0
  · exact w_c1
  · exact w_c2
  · exact w_c3
  · exact w_c4
set_option maxRecDepth 65536 in
theorem w_t1 : (words1.take 24).all (fun c => isCode c || c.before args0 about1) = true := by decide +kernel
set_option maxRecDepth 65536 in
theorem w_t2 : (words1.drop 24).all (fun c => isCode c || c.before args0 about1) = true := by decide +kernel
theorem w_tables : (allAtoms (Jvm.Cond.code x code maxLocals ret :: tables_1)).before args0 about1 = true := by
  rw [allAtoms_all]
  show words1.all (fun c => c.before args0 about1) = true
  refine all_split ?_ w_codes
  rw [← List.take_append_drop 24 words1, List.all_append, w_t1, w_t2]
  rfl
set_option maxRecDepth 65536 in
theorem w_case : (Jvm.Cond.and given_1 narrow_1).before args0 about1 = true := by decide +kernel
theorem w_applies : (headSpec (Jvm.Cond.code x code maxLocals ret :: tables_1) room_1).applies x e0.platform about1 = true :=
  (Spec.applies_iff w_frames).mpr ⟨w_running, w_runnable, w_alone, w_named, w_hears, w_ripe, w_room, w_tables⟩
theorem atStart : AtStart classFile x code maxLocals ret World_1 tables_1 room_1 Calls_1 rest_1 Pre_1 launch0 p0 e0 about1 theMethod args0 below0 :=
  ⟨lists_1, trivial, launch0.admits_env _ _ _, launch0.least_env, fairChoices_fair.cas, fairChoices_fair.clock, w_frames, w_args, w_heap, w_applies, trivial, trivial, w_case⟩
end start1
theorem witness_1 : WitnessClaimed_1 := ⟨start1.p0, start1.e0, start1.about1, start1.theMethod, start1.args0, start1.below0, start1.atStart⟩
end Jvm.Pilot.@@N@@
