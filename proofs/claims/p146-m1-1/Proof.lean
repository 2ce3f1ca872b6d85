import JvmDerived
import JvmDerived.Pilot.@@N@@Statement
import JvmDerived.Pilot.@@N@@Code
set_option linter.unusedVariables false
set_option linter.unusedSimpArgs false
namespace Jvm.RoadKit
open Sem ClassFile Op Lib Jvm.Stand Jvm.Free Jvm.LawKit
section New
variable {p : Program} {l : Launch} {e : Env} {R : Room} {s : State} {m : MethodId} {args : Array Value} {below : List Frame} {meth : Method} {c : Code} {T : State} {locs : List Loc} {cells slots : Nat}
theorem retI (X : Stand p l e R s m args below meth c T locs cells slots) (hx : p.tables.exec = Jvm.exec) {pc : Nat} {Ls : Array Slot} {z : Int32} {rest : List Value} (hret : meth.sig.returnType = some .int) (hd : decode c.code pc = .ok (.ireturn, 1)) {fs : List Frame}
    (hl : ∀ (f : JFrame) (acts : List Action), f.method = m → f.locked = none → f.entered = [] → (doReturn e (T.setTop f) acts (some (.int z))).1 = T.setFrames fs) : Steps p.tables e below (T.setTop (mkF m pc Ls (.int z :: rest))) (T.setFrames fs) := by
  have hm' : T.vm.method? m = some meth := X.method'
  have hn : narrow .int (.int z) = .int z := rfl
  show Steps p.tables e below (T.setTop { method := m, pc := pc, locals := Ls, stack := _ :: rest, locked := none }) _
  jvm_step X.here [X.here.top, hx, hd, hm', hret, hn]
  first | (intro acts; rw [hl _ acts rfl rfl rfl]) | rw [hl _ _ rfl rfl rfl]
  exact Steps.refl _
end New
end Jvm.RoadKit

namespace Jvm.Pilot.@@N@@
open Jvm Jvm.ClassFile Sem Op Lib Jvm.Free Jvm.Stand Jvm.LawKit Jvm.RoadKit Bundle Jvm.Pilot.@@N@@.Jvm.D
theorem own_nb (x : Int32) : nar .byte (x.toInt8.toInt32) = x.toInt8.toInt32 := by
  show (x.toInt8.toInt32).toInt8.toInt32 = x.toInt8.toInt32
  simp
theorem own_fb {x : Int32} (h : nar .byte x = x) : fits .byte (.int x) = true := by
  have q := fits_nar_byte x
  have e : x.toInt8.toInt32 = x := h
  rwa [e] at q
theorem own_nc (x : Int32) : nar .char (x.toUInt32.toUInt16.toUInt32.toInt32) = x.toUInt32.toUInt16.toUInt32.toInt32 := by
  show (x.toUInt32.toUInt16.toUInt32.toInt32).toUInt32.toUInt16.toUInt32.toInt32 = x.toUInt32.toUInt16.toUInt32.toInt32
  apply Int32.toInt_inj.mp
  have h1 := c_i2c x
  have h2 := c_i2c (x.toUInt32.toUInt16.toUInt32.toInt32)
  omega
theorem own_fc {x : Int32} (h : nar .char x = x) : fits .char (.int x) = true := by
  have q := fits_nar_char x
  rwa [h] at q
theorem own_selp {s : State} {args : Array Value} {y : MethodName} {n : Nat} (wi : (Jvm.Cond.instantiable y.cls n).before args s = true) (hp : s.PrivateAt y) (hm : (Jvm.Cond.instanceMethod y).before args s = true) (hy : y.cls ≠ "java/lang/invoke/MethodHandle" ∧ y.cls ≠ "java/lang/invoke/VarHandle") : (Jvm.Cond.selects y.cls y y).before args s = true := by
  obtain ⟨t, k, g0, g2, g5, g7, -⟩ := Cond.instantiable_spec wi
  exact selects_self_of_private g0 g2 (Bool.or_eq_false_iff.mp g7).1 hp hm hy
theorem own_wS {Z : State} {a0 : Array Value} (hw : ∀ d ∈ tables_1, d.before a0 Z = true) : ∀ a ∈ Bundle.stringAtoms, a.before a0 Z = true := by
  intro a ha
  simp only [Bundle.stringAtoms, List.mem_cons, List.not_mem_nil, or_false] at ha
  rcases ha with rfl | rfl | rfl | rfl | rfl | rfl | rfl
  · exact hw _ (List.mem_of_getElem? (i := 29) rfl)
  · exact hw _ (List.mem_of_getElem? (i := 30) rfl)
  · exact hw _ (List.mem_of_getElem? (i := 4) rfl)
  · exact hw _ (List.mem_of_getElem? (i := 31) rfl)
  · exact hw _ (List.mem_of_getElem? (i := 32) rfl)
  · exact hw _ (List.mem_of_getElem? (i := 33) rfl)
  · exact hw _ (List.mem_of_getElem? (i := 34) rfl)
theorem own_low (x : Int32) : (((x.toInt8.toInt32) &&& (255 : Int32)) &&& (31 : Int32)) = x &&& (31 : Int32) := by
  have a := c_i2b x
  have b := c_mask (x.toInt8.toInt32) 255 8 (by decide) (by decide)
  have d := c_mask ((x.toInt8.toInt32) &&& (255 : Int32)) 31 5 (by decide) (by decide)
  have f := c_mask x 31 5 (by decide) (by decide)
  exact Int32.toInt_inj.mp (by omega)
theorem own_xor1 (y : Int32) (h : (y &&& (31 : Int32)) = (31 : Int32)) : ¬ (((y ^^^ (1 : Int32)) &&& (31 : Int32)) = (31 : Int32)) := by
  intro q
  have h0 := congrArg (fun z : Int32 => z.toBitVec.getLsbD 0) h
  have q0 := congrArg (fun z : Int32 => z.toBitVec.getLsbD 0) q
  simp at h0 q0
  rw [h0] at q0
  exact absurd q0 (by decide)
def own_tag (p0 : Int32) : Int32 := (if ((p0 &&& (255 : Int32)) &&& (31 : Int32)) = (31 : Int32) then ((p0 &&& (255 : Int32)) ^^^ (1 : Int32)) else (p0 &&& (255 : Int32)))
theorem pn0 : plainName "com/example/fair_witness/fairwitness/attestation/DerReaderHasMorePinLaw" = true := by first | (simp [plainName, overriddenIn]; done) | decide +kernel
theorem d1_0 : decode method_2_code 0 = .ok (.iload_n 0, 1) := by decide +kernel
theorem d1_1 : decode method_2_code 1 = .ok (.sipush 255, 3) := by decide +kernel
theorem d1_4 : decode method_2_code 4 = .ok (.iand, 1) := by decide +kernel
theorem d1_5 : decode method_2_code 5 = .ok (.istore_n 1, 1) := by decide +kernel
theorem d1_6 : decode method_2_code 6 = .ok (.iload_n 1, 1) := by decide +kernel
theorem d1_7 : decode method_2_code 7 = .ok (.bipush 31, 2) := by decide +kernel
theorem d1_9 : decode method_2_code 9 = .ok (.iand, 1) := by decide +kernel
theorem d1_10 : decode method_2_code 10 = .ok (.bipush 31, 2) := by decide +kernel
theorem d1_12 : decode method_2_code 12 = .ok (.if_icmp .ne 7, 3) := by decide +kernel
theorem d1_15 : decode method_2_code 15 = .ok (.iload_n 1, 1) := by decide +kernel
theorem d1_16 : decode method_2_code 16 = .ok (.iconst 1, 1) := by decide +kernel
theorem d1_17 : decode method_2_code 17 = .ok (.ixor, 1) := by decide +kernel
theorem d1_18 : decode method_2_code 18 = .ok (.istore_n 1, 1) := by decide +kernel
theorem d1_19 : decode method_2_code 19 = .ok (.iload_n 1, 1) := by decide +kernel
theorem d1_20 : decode method_2_code 20 = .ok (.ireturn, 1) := by decide +kernel
theorem ef_1 (m : MethodId) (x0 : Int32) : entryFrame m #[(.int x0)] 2 = mkF m 0 #[.val (.int x0), .unset] [] := by first | (simp [entryFrame, mkF, argsToLocals, Value.category]; done) | rfl
def Q1 (Z : State) (p0 : Int32) (h0 : Heap) (n0 : Nat) (v : Option Value) (h : Heap) (L : List Loc) : Prop := v = some (.int (own_tag p0)) ∧ Fr n0 L ∧ h = h0
set_option maxRecDepth 65536 in
set_option maxHeartbeats 40000000 in
theorem rm1 (l : Launch) (Z : State) (a0 : Array Value) (hw : ∀ d ∈ tables_1, d.before a0 Z = true) (ws : List Jvm.Cond) (p0 : Int32) (h0 : Heap) (n0 : Nat) (Z0 : n0 ≤ h0.size) :
    MetFree l (⟨"com/example/fair_witness/fairwitness/attestation/DerReaderHasMorePinLaw", "tag", "(I)I"⟩ : MethodName) (head1 (Jvm.Cond.code (⟨"com/example/fair_witness/fairwitness/attestation/DerReaderHasMorePinLaw", "tag", "(I)I"⟩ : MethodName) method_2_code 2 (some .int) :: ws) ({ frames := 0, cells := 0, slots := 0, locals := 0 } : Room)) (fun a U => a = #[(.int p0)] ∧ Z.Warmed39 U.vm ∧ U.heap = h0) (fun _ _ _ _ _ => True) (fun _ U o U' => ∃ v L, o = .returned v ∧ Q1 Z p0 h0 n0 v U'.heap L ∧ FrameEnd U o U' L ({ frames := 0, cells := 0, slots := 0, locals := 0 } : Room).cells ({ frames := 0, cells := 0, slots := 0, locals := 0 } : Room).slots) := by
  refine MetFree.of_bodySF (plainFor_of_name pn0) hisR ?_
  intro p e s m args below meth c s₁ Bd hml0 hP hK
  obtain ⟨rfl, hZ, hh⟩ := hP
  have hx := Bd.exec
  have hby := Bd.bytes
  have hml : c.maxLocals = 2 := hml0
  have hown : s.vm.findClass "com/example/fair_witness/fairwitness/attestation/DerReaderHasMorePinLaw" = some m.cls := findClass_of_methodNamed Bd.named
  have hnm := (name_of_methodNamed Bd.named Bd.method).1
  have X0 : Stand p l e ({ frames := 0, cells := 0, slots := 0, locals := 0 } : Room) s m #[(.int p0)] below meth c s₁ [] 0 0 := Stand.of_body Bd
  have e0 : s₁.heap = h0 := by rw [← hh, Bd.state]; rfl
  have N0 := Fr.nil n0
  have pre0 : ∀ t, Steps p.tables e below (s₁.setTop (mkF m 0 #[iv p0, .unset] [])) t → Steps p.tables e below (s₁.setTop (entryFrame m #[(.int p0)] 2)) t := fun t k => castTop (ef_1 m p0) k
  have pre1 : ∀ t, Steps p.tables e below (s₁.setTop (mkF m 12 #[iv p0, iv (p0 &&& (255 : Int32))] [(.int (31 : Int32)), (.int ((p0 &&& (255 : Int32)) &&& (31 : Int32)))])) t → Steps p.tables e below (s₁.setTop (entryFrame m #[(.int p0)] 2)) t := by
    intro t kt
    refine pre0 _ ?_
    show Steps p.tables e below (s₁.setTop (mkF m 0 #[iv p0, .unset] [])) _
    refine XS.iloadN X0.here hx rfl (hb hby d1_0) rfl ?_
    refine XS.sipush X0.here hx rfl (hb hby d1_1) ?_
    refine XS.iand X0.here hx rfl (hb hby d1_4) rfl ?_
    refine XS.istoreN X0.here hx rfl (hb hby d1_5) rfl (l' := #[iv p0, iv (p0 &&& (255 : Int32))]) rfl ?_
    refine XS.iloadN X0.here hx rfl (hb hby d1_6) rfl ?_
    refine XS.bipush X0.here hx rfl (hb hby d1_7) ?_
    refine XS.iand X0.here hx rfl (hb hby d1_9) rfl ?_
    refine XS.bipush X0.here hx rfl (hb hby d1_10) ?_
    exact kt
  by_cases hc12 : ((p0 &&& (255 : Int32)) &&& (31 : Int32)) = (31 : Int32)
  · have pre2 : ∀ t, Steps p.tables e below (s₁.setTop (mkF m 20 #[iv p0, iv ((p0 &&& (255 : Int32)) ^^^ (1 : Int32))] [(.int ((p0 &&& (255 : Int32)) ^^^ (1 : Int32)))])) t → Steps p.tables e below (s₁.setTop (entryFrame m #[(.int p0)] 2)) t := by
      intro t kt
      refine pre1 _ ?_
      show Steps p.tables e below (s₁.setTop (mkF m 12 #[iv p0, iv (p0 &&& (255 : Int32))] [(.int (31 : Int32)), (.int ((p0 &&& (255 : Int32)) &&& (31 : Int32)))])) _
      refine XS.icmpNo X0.here hx rfl (hb hby d1_12) rfl (teq hc12).2 ?_
      refine XS.iloadN X0.here hx rfl (hb hby d1_15) rfl ?_
      refine XS.iconst X0.here hx rfl (hb hby d1_16) ?_
      refine XS.ixor X0.here hx rfl (hb hby d1_17) rfl ?_
      refine XS.istoreN X0.here hx rfl (hb hby d1_18) rfl (l' := #[iv p0, iv ((p0 &&& (255 : Int32)) ^^^ (1 : Int32))]) rfl ?_
      refine XS.iloadN X0.here hx rfl (hb hby d1_19) rfl ?_
      exact kt
    obtain ⟨fs, hr, hrun, hended, hW, hsame⟩ := X0.leave (v := some (.int ((p0 &&& (255 : Int32)) ^^^ (1 : Int32)))) (fun h => by rw [Bd.returns] at h; cases h)
    refine ⟨_, _, pre2 _ ?_, hrun, hended, _, _, rfl, ?_, ⟨_, rfl⟩, hW, hsame.mono (by decide) (by decide)⟩
    · show Steps p.tables e below (s₁.setTop (mkF m 20 #[iv p0, iv ((p0 &&& (255 : Int32)) ^^^ (1 : Int32))] [(.int ((p0 &&& (255 : Int32)) ^^^ (1 : Int32)))])) _
      exact retI X0 hx Bd.returns (hb hby d1_20) hr
    · show Q1 Z p0 h0 n0 _ s₁.heap _
      rw [e0]
      exact ⟨congrArg (fun z => some (Value.int z)) ((if_pos hc12).trans rfl).symm, N0, rfl⟩
  · have pre3 : ∀ t, Steps p.tables e below (s₁.setTop (mkF m 20 #[iv p0, iv (p0 &&& (255 : Int32))] [(.int (p0 &&& (255 : Int32)))])) t → Steps p.tables e below (s₁.setTop (entryFrame m #[(.int p0)] 2)) t := by
      intro t kt
      refine pre1 _ ?_
      show Steps p.tables e below (s₁.setTop (mkF m 12 #[iv p0, iv (p0 &&& (255 : Int32))] [(.int (31 : Int32)), (.int ((p0 &&& (255 : Int32)) &&& (31 : Int32)))])) _
      refine XS.icmpYes X0.here hx rfl (pc0 := 12) (pc' := 19) rfl (hb hby d1_12) rfl (feq hc12).2 (by decide) (by decide) ?_
      refine XS.iloadN X0.here hx rfl (hb hby d1_19) rfl ?_
      exact kt
    obtain ⟨fs, hr, hrun, hended, hW, hsame⟩ := X0.leave (v := some (.int (p0 &&& (255 : Int32)))) (fun h => by rw [Bd.returns] at h; cases h)
    refine ⟨_, _, pre3 _ ?_, hrun, hended, _, _, rfl, ?_, ⟨_, rfl⟩, hW, hsame.mono (by decide) (by decide)⟩
    · show Steps p.tables e below (s₁.setTop (mkF m 20 #[iv p0, iv (p0 &&& (255 : Int32))] [(.int (p0 &&& (255 : Int32)))])) _
      exact retI X0 hx Bd.returns (hb hby d1_20) hr
    · show Q1 Z p0 h0 n0 _ s₁.heap _
      rw [e0]
      exact ⟨congrArg (fun z => some (Value.int z)) ((if_neg hc12).trans rfl).symm, N0, rfl⟩
theorem own_tagok (p : Int32) : ¬ (((((own_tag p).toInt8.toInt32) &&& (255 : Int32)) &&& (31 : Int32)) = (31 : Int32)) := by
  rw [own_low]
  unfold own_tag
  split
  · rename_i h; exact own_xor1 _ h
  · rename_i h; exact h
theorem pn1 : plainName "com/example/fair_witness/fairwitness/attestation/DerReader" = true := by first | (simp [plainName, overriddenIn]; done) | decide +kernel
theorem d3_0 : decode prog_10_method_2_code 0 = .ok (.aload_n 0, 1) := by decide +kernel
theorem d3_1 : decode prog_10_method_2_code 1 = .ok (.invokespecial 7, 3) := by decide +kernel
theorem d3_4 : decode prog_10_method_2_code 4 = .ok (.aload_n 0, 1) := by decide +kernel
theorem d3_5 : decode prog_10_method_2_code 5 = .ok (.aload_n 1, 1) := by decide +kernel
theorem d3_6 : decode prog_10_method_2_code 6 = .ok (.putfield 12, 3) := by decide +kernel
theorem d3_9 : decode prog_10_method_2_code 9 = .ok (.aload_n 0, 1) := by decide +kernel
theorem d3_10 : decode prog_10_method_2_code 10 = .ok (.iload_n 2, 1) := by decide +kernel
theorem d3_11 : decode prog_10_method_2_code 11 = .ok (.putfield 16, 3) := by decide +kernel
theorem d3_14 : decode prog_10_method_2_code 14 = .ok (.aload_n 0, 1) := by decide +kernel
theorem d3_15 : decode prog_10_method_2_code 15 = .ok (.iload_n 3, 1) := by decide +kernel
theorem d3_16 : decode prog_10_method_2_code 16 = .ok (.putfield 20, 3) := by decide +kernel
theorem d3_19 : decode prog_10_method_2_code 19 = .ok (.return_, 1) := by decide +kernel
theorem ef_3 (m : MethodId) (x0 : Addr) (x1 : Addr) (x2 : Int32) (x3 : Int32) : entryFrame m #[(.ref x0), (.ref x1), (.int x2), (.int x3)] 4 = mkF m 0 #[.val (.ref x0), .val (.ref x1), .val (.int x2), .val (.int x3)] [] := by first | (simp [entryFrame, mkF, argsToLocals, Value.category]; done) | rfl
def Q3 (Z : State) (r0 : Addr) (r1 : Addr) (p2 : Int32) (p3 : Int32) (h0 : Heap) (n0 : Nat) (v : Option Value) (h : Heap) (L : List Loc) : Prop := v = none ∧ Fr n0 L ∧ Keep h0 h [r0] ∧ Fld Z h r0 "com/example/fair_witness/fairwitness/attestation/DerReader" "bytes" "[B" (.ref r1) ∧ Fld Z h r0 "com/example/fair_witness/fairwitness/attestation/DerReader" "position" "I" (.int p2) ∧ Fld Z h r0 "com/example/fair_witness/fairwitness/attestation/DerReader" "end" "I" (.int p3)
set_option maxRecDepth 65536 in
set_option maxHeartbeats 40000000 in
theorem rm3 (l : Launch) (Z : State) (a0 : Array Value) (hw : ∀ d ∈ tables_1, d.before a0 Z = true) (ws : List Jvm.Cond) (r0 : Addr) (r1 : Addr) (p2 : Int32) (p3 : Int32) (h0 : Heap) (n0 : Nat) (Z0 : n0 ≤ h0.size) (F_bytes_r0 : Fld Z h0 r0 "com/example/fair_witness/fairwitness/attestation/DerReader" "bytes" "[B" .null) (F_position_r0 : Fld Z h0 r0 "com/example/fair_witness/fairwitness/attestation/DerReader" "position" "I" (.int (0 : Int32))) (F_end_r0 : Fld Z h0 r0 "com/example/fair_witness/fairwitness/attestation/DerReader" "end" "I" (.int (0 : Int32))) (E_r0 : Exa Z h0 r0 "com/example/fair_witness/fairwitness/attestation/DerReader") (g_r0 : n0 ≤ r0) :
    MetFree l (⟨"com/example/fair_witness/fairwitness/attestation/DerReader", "<init>", "([BII)V"⟩ : MethodName) (head1 (Jvm.Cond.code (⟨"com/example/fair_witness/fairwitness/attestation/DerReader", "<init>", "([BII)V"⟩ : MethodName) prog_10_method_2_code 4 none :: ws) ({ frames := 1, cells := 0, slots := 0, locals := 12 } : Room)) (fun a U => a = #[(.ref r0), (.ref r1), (.int p2), (.int p3)] ∧ Z.Warmed39 U.vm ∧ U.heap = h0) (fun _ _ _ _ _ => True) (fun _ U o U' => ∃ v L, o = .returned v ∧ Q3 Z r0 r1 p2 p3 h0 n0 v U'.heap L ∧ FrameEnd U o U' L ({ frames := 1, cells := 0, slots := 0, locals := 12 } : Room).cells ({ frames := 1, cells := 0, slots := 0, locals := 12 } : Room).slots) := by
  refine MetFree.of_bodySF (plainFor_of_name pn1) hisR ?_
  intro p e s m args below meth c s₁ Bd hml0 hP hK
  obtain ⟨rfl, hZ, hh⟩ := hP
  have hx := Bd.exec
  have hby := Bd.bytes
  have hml : c.maxLocals = 4 := hml0
  have hown : s.vm.findClass "com/example/fair_witness/fairwitness/attestation/DerReader" = some m.cls := findClass_of_methodNamed Bd.named
  have hnm := (name_of_methodNamed Bd.named Bd.method).1
  have X0 : Stand p l e ({ frames := 1, cells := 0, slots := 0, locals := 12 } : Room) s m #[(.ref r0), (.ref r1), (.int p2), (.int p3)] below meth c s₁ [] 0 0 := Stand.of_body Bd
  have e0 : s₁.heap = h0 := by rw [← hh, Bd.state]; rfl
  have N0 := Fr.nil n0
  have pre0 : ∀ t, Steps p.tables e below (s₁.setTop (mkF m 0 #[rv r0, rv r1, iv p2, iv p3] [])) t → Steps p.tables e below (s₁.setTop (entryFrame m #[(.ref r0), (.ref r1), (.int p2), (.int p3)] 4)) t := fun t k => castTop (ef_3 m r0 r1 p2 p3) k
  have pre1 : ∀ t, Steps p.tables e below (s₁.setTop (mkF m 1 #[rv r0, rv r1, iv p2, iv p3] [(.ref r0)])) t → Steps p.tables e below (s₁.setTop (entryFrame m #[(.ref r0), (.ref r1), (.int p2), (.int p3)] 4)) t := by
    intro t kt
    refine pre0 _ ?_
    show Steps p.tables e below (s₁.setTop (mkF m 0 #[rv r0, rv r1, iv p2, iv p3] [])) _
    refine XS.aloadN X0.here hx rfl (hb hby d3_0) rfl rfl ?_
    exact kt
  obtain ⟨T2, X2, e2, st2⟩ := initO X0 hx hZ hown (hw _ (List.mem_of_getElem? (i := 14) rfl)) (hw _ (List.mem_of_getElem? (i := 15) rfl)) (hw _ (List.mem_of_getElem? (i := 16) rfl)) e0 (g := (mkF m 1 #[rv r0, rv r1, iv p2, iv p3] [(.ref r0)])) rfl (by rw [hml]; rfl) rfl (hb hby d3_1) (by decide) (W := 0) (by show 2 * 0 + _ ≤ _; exact Nat.le_of_eq rfl) (by decide)
  have pre3 : ∀ t, Steps p.tables e below (T2.setTop (mkF m 6 #[rv r0, rv r1, iv p2, iv p3] [(.ref r1), (.ref r0)])) t → Steps p.tables e below (s₁.setTop (entryFrame m #[(.ref r0), (.ref r1), (.int p2), (.int p3)] 4)) t := by
    intro t kt
    refine pre1 _ ?_
    show Steps p.tables e below (s₁.setTop (mkF m 1 #[rv r0, rv r1, iv p2, iv p3] [(.ref r0)])) _
    refine st2 _ ?_
    show Steps p.tables e below (T2.setTop (mkF m 4 #[rv r0, rv r1, iv p2, iv p3] [])) _
    refine XS.aloadN X2.here hx rfl (hb hby d3_4) rfl rfl ?_
    refine XS.aloadN X2.here hx rfl (hb hby d3_5) rfl rfl ?_
    exact kt
  obtain ⟨T4, h4, X4, e4, W4, st4⟩ := putF X2 hx hZ hown (host := "") (Or.inl (hw _ (List.mem_of_getElem? (i := 17) rfl))) Via.refl e2 F_bytes_r0 E_r0 (Or.inr ⟨(hw _ (List.mem_of_getElem? (i := 18) rfl)), rfl, hnm⟩) (hw _ (List.mem_of_getElem? (i := 6) rfl)) (ty := (.array .byte)) (by decide) rfl rfl (g := (mkF m 6 #[rv r0, rv r1, iv p2, iv p3] [(.ref r1), (.ref r0)])) rfl rfl (hb hby d3_6)
  have Fw4 : Fld Z h4 r0 "com/example/fair_witness/fairwitness/attestation/DerReader" "bytes" "[B" (.ref r1) := F_bytes_r0.same W4
  have K4 : Keep h0 h4 [r0] := (Keep.refl h0 [r0]).wr W4 (Or.inl (List.mem_of_getElem? (i := 0) rfl))
  have N4 := Fr.snoc X4 N0 g_r0
  have pre5 : ∀ t, Steps p.tables e below (T4.setTop (mkF m 11 #[rv r0, rv r1, iv p2, iv p3] [(.int p2), (.ref r0)])) t → Steps p.tables e below (s₁.setTop (entryFrame m #[(.ref r0), (.ref r1), (.int p2), (.int p3)] 4)) t := by
    intro t kt
    refine pre3 _ ?_
    show Steps p.tables e below (T2.setTop (mkF m 6 #[rv r0, rv r1, iv p2, iv p3] [(.ref r1), (.ref r0)])) _
    refine st4 _ ?_
    show Steps p.tables e below (T4.setTop (mkF m 9 #[rv r0, rv r1, iv p2, iv p3] [])) _
    refine XS.aloadN X4.here hx rfl (hb hby d3_9) rfl rfl ?_
    refine XS.iloadN X4.here hx rfl (hb hby d3_10) rfl ?_
    exact kt
  obtain ⟨T6, h6, X6, e6, W6, st6⟩ := putF X4 hx hZ hown (host := "") (Or.inl (hw _ (List.mem_of_getElem? (i := 19) rfl))) Via.refl e4 (F_position_r0.other W4 (Or.inr (slot_ne (Or.inl (hw _ (List.mem_of_getElem? (i := 20) rfl))) (Or.inr (hw _ (List.mem_of_getElem? (i := 18) rfl))) (by decide) (t := .int) (t' := (.array .byte)) (by decide) (by decide)))) (E_r0.wr W4) (Or.inl (hw _ (List.mem_of_getElem? (i := 20) rfl))) (hw _ (List.mem_of_getElem? (i := 6) rfl)) (ty := .int) (by decide) rfl rfl (g := (mkF m 11 #[rv r0, rv r1, iv p2, iv p3] [(.int p2), (.ref r0)])) rfl rfl (hb hby d3_11)
  have Fw6 : Fld Z h6 r0 "com/example/fair_witness/fairwitness/attestation/DerReader" "position" "I" (.int p2) := (F_position_r0.other W4 (Or.inr (slot_ne (Or.inl (hw _ (List.mem_of_getElem? (i := 20) rfl))) (Or.inr (hw _ (List.mem_of_getElem? (i := 18) rfl))) (by decide) (t := .int) (t' := (.array .byte)) (by decide) (by decide)))).same W6
  have K6 : Keep h0 h6 [r0] := K4.wr W6 (Or.inl (List.mem_of_getElem? (i := 0) rfl))
  have N6 := Fr.snoc X6 N4 g_r0
  have pre7 : ∀ t, Steps p.tables e below (T6.setTop (mkF m 16 #[rv r0, rv r1, iv p2, iv p3] [(.int p3), (.ref r0)])) t → Steps p.tables e below (s₁.setTop (entryFrame m #[(.ref r0), (.ref r1), (.int p2), (.int p3)] 4)) t := by
    intro t kt
    refine pre5 _ ?_
    show Steps p.tables e below (T4.setTop (mkF m 11 #[rv r0, rv r1, iv p2, iv p3] [(.int p2), (.ref r0)])) _
    refine st6 _ ?_
    show Steps p.tables e below (T6.setTop (mkF m 14 #[rv r0, rv r1, iv p2, iv p3] [])) _
    refine XS.aloadN X6.here hx rfl (hb hby d3_14) rfl rfl ?_
    refine XS.iloadN X6.here hx rfl (hb hby d3_15) rfl ?_
    exact kt
  obtain ⟨T8, h8, X8, e8, W8, st8⟩ := putF X6 hx hZ hown (host := "") (Or.inl (hw _ (List.mem_of_getElem? (i := 21) rfl))) Via.refl e6 ((F_end_r0.other W4 (Or.inr (slot_ne (Or.inr (hw _ (List.mem_of_getElem? (i := 22) rfl))) (Or.inr (hw _ (List.mem_of_getElem? (i := 18) rfl))) (by decide) (t := .int) (t' := (.array .byte)) (by decide) (by decide)))).other W6 (Or.inr (slot_ne (Or.inr (hw _ (List.mem_of_getElem? (i := 22) rfl))) (Or.inl (hw _ (List.mem_of_getElem? (i := 20) rfl))) (by decide) (t := .int) (t' := .int) (by decide) (by decide)))) ((E_r0.wr W4).wr W6) (Or.inr ⟨(hw _ (List.mem_of_getElem? (i := 22) rfl)), rfl, hnm⟩) (hw _ (List.mem_of_getElem? (i := 6) rfl)) (ty := .int) (by decide) rfl rfl (g := (mkF m 16 #[rv r0, rv r1, iv p2, iv p3] [(.int p3), (.ref r0)])) rfl rfl (hb hby d3_16)
  have Fw8 : Fld Z h8 r0 "com/example/fair_witness/fairwitness/attestation/DerReader" "end" "I" (.int p3) := ((F_end_r0.other W4 (Or.inr (slot_ne (Or.inr (hw _ (List.mem_of_getElem? (i := 22) rfl))) (Or.inr (hw _ (List.mem_of_getElem? (i := 18) rfl))) (by decide) (t := .int) (t' := (.array .byte)) (by decide) (by decide)))).other W6 (Or.inr (slot_ne (Or.inr (hw _ (List.mem_of_getElem? (i := 22) rfl))) (Or.inl (hw _ (List.mem_of_getElem? (i := 20) rfl))) (by decide) (t := .int) (t' := .int) (by decide) (by decide)))).same W8
  have K8 : Keep h0 h8 [r0] := K6.wr W8 (Or.inl (List.mem_of_getElem? (i := 0) rfl))
  have N8 := Fr.snoc X8 N6 g_r0
  have pre9 : ∀ t, Steps p.tables e below (T8.setTop (mkF m 19 #[rv r0, rv r1, iv p2, iv p3] [])) t → Steps p.tables e below (s₁.setTop (entryFrame m #[(.ref r0), (.ref r1), (.int p2), (.int p3)] 4)) t := by
    intro t kt
    refine pre7 _ ?_
    show Steps p.tables e below (T6.setTop (mkF m 16 #[rv r0, rv r1, iv p2, iv p3] [(.int p3), (.ref r0)])) _
    refine st8 _ ?_
    exact kt
  obtain ⟨fs, hr, hrun, hended, hW, hsame⟩ := X8.leave (v := none) (fun _ => rfl)
  refine ⟨_, _, pre9 _ ?_, hrun, hended, _, _, rfl, ?_, ⟨_, rfl⟩, hW, hsame.mono (by decide) (by decide)⟩
  · show Steps p.tables e below (T8.setTop (mkF m 19 #[rv r0, rv r1, iv p2, iv p3] [])) _
    exact X8.returnOut hx Bd.returns (hb hby d3_19) hr
  · show Q3 Z r0 r1 p2 p3 h0 n0 _ T8.heap _
    rw [e8]
    exact ⟨rfl, N8, K8, ((Fw4.other W6 (Or.inr (slot_ne (Or.inr (hw _ (List.mem_of_getElem? (i := 18) rfl))) (Or.inl (hw _ (List.mem_of_getElem? (i := 20) rfl))) (by decide) (t := (.array .byte)) (t' := .int) (by decide) (by decide)))).other W8 (Or.inr (slot_ne (Or.inr (hw _ (List.mem_of_getElem? (i := 18) rfl))) (Or.inr (hw _ (List.mem_of_getElem? (i := 22) rfl))) (by decide) (t := (.array .byte)) (t' := .int) (by decide) (by decide)))), (Fw6.other W8 (Or.inr (slot_ne (Or.inl (hw _ (List.mem_of_getElem? (i := 20) rfl))) (Or.inr (hw _ (List.mem_of_getElem? (i := 22) rfl))) (by decide) (t := .int) (t' := .int) (by decide) (by decide)))), Fw8⟩
theorem d2_0 : decode prog_10_method_1_code 0 = .ok (.aload_n 0, 1) := by decide +kernel
theorem d2_1 : decode prog_10_method_1_code 1 = .ok (.aload_n 1, 1) := by decide +kernel
theorem d2_2 : decode prog_10_method_1_code 2 = .ok (.iconst 0, 1) := by decide +kernel
theorem d2_3 : decode prog_10_method_1_code 3 = .ok (.aload_n 1, 1) := by decide +kernel
theorem d2_4 : decode prog_10_method_1_code 4 = .ok (.arraylength, 1) := by decide +kernel
theorem pd2 : parseMethodDescriptor "([BII)V" = some ⟨[(.array .byte), .int, .int], none⟩ := by decide +kernel
theorem d2_5 : decode prog_10_method_1_code 5 = .ok (.invokespecial 1, 3) := by decide +kernel
theorem d2_8 : decode prog_10_method_1_code 8 = .ok (.return_, 1) := by decide +kernel
theorem ef_2 (m : MethodId) (x0 : Addr) (x1 : Addr) : entryFrame m #[(.ref x0), (.ref x1)] 2 = mkF m 0 #[.val (.ref x0), .val (.ref x1)] [] := by first | (simp [entryFrame, mkF, argsToLocals, Value.category]; done) | rfl
def Q2 (Z : State) (r0 : Addr) (r1 : Addr) (kc : ClassId) (dd0 : Int32) (dd1 : Int32) (dd2 : Int32) (dd3 : Int32) (dd4 : Int32) (dd5 : Int32) (dd6 : Int32) (dd7 : Int32) (h0 : Heap) (n0 : Nat) (v : Option Value) (h : Heap) (L : List Loc) : Prop := v = none ∧ Fr n0 L ∧ Keep h0 h [r0] ∧ Fld Z h r0 "com/example/fair_witness/fairwitness/attestation/DerReader" "bytes" "[B" (.ref r1) ∧ Fld Z h r0 "com/example/fair_witness/fairwitness/attestation/DerReader" "position" "I" (.int (0 : Int32)) ∧ Fld Z h r0 "com/example/fair_witness/fairwitness/attestation/DerReader" "end" "I" (.int (8 : Int32))
set_option maxRecDepth 65536 in
set_option maxHeartbeats 40000000 in
theorem rm2 (l : Launch) (Z : State) (a0 : Array Value) (hw : ∀ d ∈ tables_1, d.before a0 Z = true) (ws : List Jvm.Cond) (r0 : Addr) (r1 : Addr) (kc : ClassId) (dd0 : Int32) (dd1 : Int32) (dd2 : Int32) (dd3 : Int32) (dd4 : Int32) (dd5 : Int32) (dd6 : Int32) (dd7 : Int32) (h0 : Heap) (n0 : Nat) (Z0 : n0 ≤ h0.size) (F_bytes_r0 : Fld Z h0 r0 "com/example/fair_witness/fairwitness/attestation/DerReader" "bytes" "[B" .null) (F_position_r0 : Fld Z h0 r0 "com/example/fair_witness/fairwitness/attestation/DerReader" "position" "I" (.int (0 : Int32))) (F_end_r0 : Fld Z h0 r0 "com/example/fair_witness/fairwitness/attestation/DerReader" "end" "I" (.int (0 : Int32))) (E_r0 : Exa Z h0 r0 "com/example/fair_witness/fairwitness/attestation/DerReader") (g_r0 : n0 ≤ r0) (V_r1 : Arv Z h0 r1 kc .byte (8 : Int32) [(.int dd0), (.int dd1), (.int dd2), (.int dd3), (.int dd4), (.int dd5), (.int dd6), (.int dd7)] (.int (0 : Int32))) :
    MetFree l (⟨"com/example/fair_witness/fairwitness/attestation/DerReader", "<init>", "([B)V"⟩ : MethodName) (head1 (Jvm.Cond.code (⟨"com/example/fair_witness/fairwitness/attestation/DerReader", "<init>", "([B)V"⟩ : MethodName) prog_10_method_1_code 2 none :: ws) ({ frames := 2, cells := 0, slots := 0, locals := 27 } : Room)) (fun a U => a = #[(.ref r0), (.ref r1)] ∧ Z.Warmed39 U.vm ∧ U.heap = h0) (fun _ _ _ _ _ => True) (fun _ U o U' => ∃ v L, o = .returned v ∧ Q2 Z r0 r1 kc dd0 dd1 dd2 dd3 dd4 dd5 dd6 dd7 h0 n0 v U'.heap L ∧ FrameEnd U o U' L ({ frames := 2, cells := 0, slots := 0, locals := 27 } : Room).cells ({ frames := 2, cells := 0, slots := 0, locals := 27 } : Room).slots) := by
  refine MetFree.of_bodySF (plainFor_of_name pn1) hisR ?_
  intro p e s m args below meth c s₁ Bd hml0 hP hK
  obtain ⟨rfl, hZ, hh⟩ := hP
  have hx := Bd.exec
  have hby := Bd.bytes
  have hml : c.maxLocals = 2 := hml0
  have hown : s.vm.findClass "com/example/fair_witness/fairwitness/attestation/DerReader" = some m.cls := findClass_of_methodNamed Bd.named
  have hnm := (name_of_methodNamed Bd.named Bd.method).1
  have X0 : Stand p l e ({ frames := 2, cells := 0, slots := 0, locals := 27 } : Room) s m #[(.ref r0), (.ref r1)] below meth c s₁ [] 0 0 := Stand.of_body Bd
  have e0 : s₁.heap = h0 := by rw [← hh, Bd.state]; rfl
  have N0 := Fr.nil n0
  have pre0 : ∀ t, Steps p.tables e below (s₁.setTop (mkF m 0 #[rv r0, rv r1] [])) t → Steps p.tables e below (s₁.setTop (entryFrame m #[(.ref r0), (.ref r1)] 2)) t := fun t k => castTop (ef_2 m r0 r1) k
  obtain ⟨cl1, Ar1, -, S1, M1, -, -⟩ := id V_r1
  have pre2 : ∀ t, Steps p.tables e below (s₁.setTop (mkF m 5 #[rv r0, rv r1] [(.int (8 : Int32)), (.int (0 : Int32)), (.ref r1), (.ref r0)])) t → Steps p.tables e below (s₁.setTop (entryFrame m #[(.ref r0), (.ref r1)] 2)) t := by
    intro t kt
    refine pre0 _ ?_
    show Steps p.tables e below (s₁.setTop (mkF m 0 #[rv r0, rv r1] [])) _
    refine XS.aloadN X0.here hx rfl (hb hby d2_0) rfl rfl ?_
    refine XS.aloadN X0.here hx rfl (hb hby d2_1) rfl rfl ?_
    refine XS.iconst X0.here hx rfl (hb hby d2_2) ?_
    refine XS.aloadN X0.here hx rfl (hb hby d2_3) rfl rfl ?_
    refine X0.arraylength hx (by rw [e0]; exact Ar1.1) (State.isArrayOf_alike hZ.alike Ar1.2.1) (g := (mkF m 4 #[rv r0, rv r1] [(.ref r1), (.int (0 : Int32)), (.ref r1), (.ref r0)])) rfl rfl (hb hby d2_4) _ ?_
    rw [len_of S1 M1]
    exact kt
  obtain ⟨_, _, ⟨T3, L3, k3, n3⟩, -, X3, ⟨Lc3, hQ3, l3, y3, z3⟩, st3⟩ := X0.specialBack hx (y := (⟨"com/example/fair_witness/fairwitness/attestation/DerReader", "<init>", "([BII)V"⟩ : MethodName)) rfl hown (mvT hZ (hw _ (List.mem_of_getElem? (i := 11) rfl))) (mvT hZ (hw _ (List.mem_of_getElem? (i := 12) rfl))) (mvT hZ (hw _ (List.mem_of_getElem? (i := 13) rfl))) (by decide) (backOf (W := 0) (rm3 l Z a0 hw [] r0 r1 (0 : Int32) (8 : Int32) h0 n0 (Nat.le_trans Z0 (Keep.refl h0 [r0]).1) F_bytes_r0 F_position_r0 F_end_r0 E_r0 g_r0) hZ (hw _ (List.mem_of_getElem? (i := 13) rfl)) (hw _ (List.mem_of_getElem? (i := 7) rfl)) (by decide) (by decide)) (g := (mkF m 5 #[rv r0, rv r1] [(.int (8 : Int32)), (.int (0 : Int32)), (.ref r1), (.ref r0)])) rfl (by rw [hml]; rfl) (Steps.refl _) (a := r0) (argsL := [(.ref r1), (.int (0 : Int32)), (.int (8 : Int32))]) (rest := []) (lenOf pd2 rfl) rfl (by show 2 * 0 + _ ≤ _; exact Nat.le_of_eq rfl) (hb hby d2_5) (fun _ _ => ⟨rfl, e0, (by decide : 0 + 0 ≤ _), (by decide : 0 + 0 ≤ _)⟩)
  dsimp only [Pt.U, Pt.locs, Pt.cells, Pt.slots] at X3 l3 y3 z3 st3 hQ3
  subst l3 y3 z3
  obtain ⟨rfl, N3q, Kc3, Fb_3, Fp_3, Fe_3⟩ := hQ3
  have N3 := Fr.app N0 N3q
  have K3 : Keep h0 T3.heap [r0] := (Keep.refl h0 [r0]).trans Kc3 (allS (Or.inl (List.mem_of_getElem? (i := 0) rfl)) all0)
  have pre4 : ∀ t, Steps p.tables e below (T3.setTop (mkF m 8 #[rv r0, rv r1] [])) t → Steps p.tables e below (s₁.setTop (entryFrame m #[(.ref r0), (.ref r1)] 2)) t := by
    intro t kt
    refine pre2 _ ?_
    show Steps p.tables e below (s₁.setTop (mkF m 5 #[rv r0, rv r1] [(.int (8 : Int32)), (.int (0 : Int32)), (.ref r1), (.ref r0)])) _
    refine st3.trans ?_
    exact kt
  obtain ⟨fs, hr, hrun, hended, hW, hsame⟩ := X3.leave (v := none) (fun _ => rfl)
  refine ⟨_, _, pre4 _ ?_, hrun, hended, _, _, rfl, ?_, ⟨_, rfl⟩, hW, hsame.mono (by decide) (by decide)⟩
  · show Steps p.tables e below (T3.setTop (mkF m 8 #[rv r0, rv r1] [])) _
    exact X3.returnOut hx Bd.returns (hb hby d2_8) hr
  · show Q2 Z r0 r1 kc dd0 dd1 dd2 dd3 dd4 dd5 dd6 dd7 h0 n0 _ T3.heap _
    exact ⟨rfl, N3, K3, Fb_3, Fp_3, Fe_3⟩
theorem d7_0 : decode prog_10_method_24_code 0 = .ok (.aload_n 0, 1) := by decide +kernel
theorem d7_1 : decode prog_10_method_24_code 1 = .ok (.getfield 16, 3) := by decide +kernel
theorem d7_4 : decode prog_10_method_24_code 4 = .ok (.aload_n 0, 1) := by decide +kernel
theorem d7_5 : decode prog_10_method_24_code 5 = .ok (.getfield 20, 3) := by decide +kernel
theorem d7_8 : decode prog_10_method_24_code 8 = .ok (.if_icmp .lt 18, 3) := by decide +kernel
theorem d7_26 : decode prog_10_method_24_code 26 = .ok (.aload_n 0, 1) := by decide +kernel
theorem d7_27 : decode prog_10_method_24_code 27 = .ok (.getfield 12, 3) := by decide +kernel
theorem d7_30 : decode prog_10_method_24_code 30 = .ok (.aload_n 0, 1) := by decide +kernel
theorem d7_31 : decode prog_10_method_24_code 31 = .ok (.dup, 1) := by decide +kernel
theorem d7_32 : decode prog_10_method_24_code 32 = .ok (.getfield 16, 3) := by decide +kernel
theorem d7_35 : decode prog_10_method_24_code 35 = .ok (.dup_x1, 1) := by decide +kernel
theorem d7_36 : decode prog_10_method_24_code 36 = .ok (.iconst 1, 1) := by decide +kernel
theorem d7_37 : decode prog_10_method_24_code 37 = .ok (.iadd, 1) := by decide +kernel
theorem d7_38 : decode prog_10_method_24_code 38 = .ok (.putfield 16, 3) := by decide +kernel
theorem d7_41 : decode prog_10_method_24_code 41 = .ok (.baload, 1) := by decide +kernel
theorem d7_42 : decode prog_10_method_24_code 42 = .ok (.sipush 255, 3) := by decide +kernel
theorem d7_45 : decode prog_10_method_24_code 45 = .ok (.iand, 1) := by decide +kernel
theorem d7_46 : decode prog_10_method_24_code 46 = .ok (.ireturn, 1) := by decide +kernel
theorem ef_7i0 (m : MethodId) (x0 : Addr) (x1 : Int32) (x2 : Addr) : entryFrame m #[(.ref x0), (.int x1), (.ref x2)] 3 = mkF m 0 #[.val (.ref x0), .val (.int x1), .val (.ref x2)] [] := by first | (simp [entryFrame, mkF, argsToLocals, Value.category]; done) | rfl
def Q7i0 (Z : State) (r0 : Addr) (p1 : Int32) (r2 : Addr) (ab : Addr) (kc : ClassId) (dd0 : Int32) (dd1 : Int32) (dd2 : Int32) (dd3 : Int32) (dd4 : Int32) (dd5 : Int32) (dd6 : Int32) (dd7 : Int32) (en : Int32) (w : Int32) (h0 : Heap) (n0 : Nat) (v : Option Value) (h : Heap) (L : List Loc) : Prop := v = some (.int w) ∧ Fr n0 L ∧ Keep h0 h [r0] ∧ Fld Z h r0 "com/example/fair_witness/fairwitness/attestation/DerReader" "bytes" "[B" (.ref ab) ∧ Fld Z h r0 "com/example/fair_witness/fairwitness/attestation/DerReader" "position" "I" (.int (1 : Int32)) ∧ Fld Z h r0 "com/example/fair_witness/fairwitness/attestation/DerReader" "end" "I" (.int en)
set_option maxRecDepth 65536 in
set_option maxHeartbeats 40000000 in
theorem rm7i0 (l : Launch) (Z : State) (a0 : Array Value) (hw : ∀ d ∈ tables_1, d.before a0 Z = true) (ws : List Jvm.Cond) (r0 : Addr) (p1 : Int32) (r2 : Addr) (ab : Addr) (kc : ClassId) (dd0 : Int32) (dd1 : Int32) (dd2 : Int32) (dd3 : Int32) (dd4 : Int32) (dd5 : Int32) (dd6 : Int32) (dd7 : Int32) (en : Int32) (w : Int32) (h0 : Heap) (n0 : Nat) (Z0 : n0 ≤ h0.size) (F_bytes_r0 : Fld Z h0 r0 "com/example/fair_witness/fairwitness/attestation/DerReader" "bytes" "[B" (.ref ab)) (F_position_r0 : Fld Z h0 r0 "com/example/fair_witness/fairwitness/attestation/DerReader" "position" "I" (.int (0 : Int32))) (F_end_r0 : Fld Z h0 r0 "com/example/fair_witness/fairwitness/attestation/DerReader" "end" "I" (.int en)) (E_r0 : Exa Z h0 r0 "com/example/fair_witness/fairwitness/attestation/DerReader") (g_r0 : n0 ≤ r0) (V_ab : Arv Z h0 ab kc .byte (8 : Int32) [(.int dd0), (.int dd1), (.int dd2), (.int dd3), (.int dd4), (.int dd5), (.int dd6), (.int dd7)] (.int (0 : Int32))) (E_ab : Exa Z h0 ab "[B") (hlt : (0 : Int32) < en) (hv : (dd0 &&& (255 : Int32)) = w) :
    MetFree l (⟨"com/example/fair_witness/fairwitness/attestation/DerReader", "nextByte", "(ILjava/lang/String;)I"⟩ : MethodName) (head1 (Jvm.Cond.code (⟨"com/example/fair_witness/fairwitness/attestation/DerReader", "nextByte", "(ILjava/lang/String;)I"⟩ : MethodName) prog_10_method_24_code 3 (some .int) :: ws) ({ frames := 0, cells := 0, slots := 0, locals := 0 } : Room)) (fun a U => a = #[(.ref r0), (.int p1), (.ref r2)] ∧ Z.Warmed39 U.vm ∧ U.heap = h0) (fun _ _ _ _ _ => True) (fun _ U o U' => ∃ v L, o = .returned v ∧ Q7i0 Z r0 p1 r2 ab kc dd0 dd1 dd2 dd3 dd4 dd5 dd6 dd7 en w h0 n0 v U'.heap L ∧ FrameEnd U o U' L ({ frames := 0, cells := 0, slots := 0, locals := 0 } : Room).cells ({ frames := 0, cells := 0, slots := 0, locals := 0 } : Room).slots) := by
  refine MetFree.of_bodySF (plainFor_of_name pn1) hisR ?_
  intro p e s m args below meth c s₁ Bd hml0 hP hK
  obtain ⟨rfl, hZ, hh⟩ := hP
  have hx := Bd.exec
  have hby := Bd.bytes
  have hml : c.maxLocals = 3 := hml0
  have hown : s.vm.findClass "com/example/fair_witness/fairwitness/attestation/DerReader" = some m.cls := findClass_of_methodNamed Bd.named
  have hnm := (name_of_methodNamed Bd.named Bd.method).1
  have X0 : Stand p l e ({ frames := 0, cells := 0, slots := 0, locals := 0 } : Room) s m #[(.ref r0), (.int p1), (.ref r2)] below meth c s₁ [] 0 0 := Stand.of_body Bd
  have e0 : s₁.heap = h0 := by rw [← hh, Bd.state]; rfl
  have N0 := Fr.nil n0
  have pre0 : ∀ t, Steps p.tables e below (s₁.setTop (mkF m 0 #[rv r0, iv p1, rv r2] [])) t → Steps p.tables e below (s₁.setTop (entryFrame m #[(.ref r0), (.int p1), (.ref r2)] 3)) t := fun t k => castTop (ef_7i0 m r0 p1 r2) k
  have pre1 : ∀ t, Steps p.tables e below (s₁.setTop (mkF m 1 #[rv r0, iv p1, rv r2] [(.ref r0)])) t → Steps p.tables e below (s₁.setTop (entryFrame m #[(.ref r0), (.int p1), (.ref r2)] 3)) t := by
    intro t kt
    refine pre0 _ ?_
    show Steps p.tables e below (s₁.setTop (mkF m 0 #[rv r0, iv p1, rv r2] [])) _
    refine XS.aloadN X0.here hx rfl (hb hby d7_0) rfl rfl ?_
    exact kt
  obtain ⟨T2, X2, e2, st2⟩ := getF X0 hx hZ hown (host := "") (Or.inl (hw _ (List.mem_of_getElem? (i := 19) rfl))) Via.refl e0 F_position_r0 (g := (mkF m 1 #[rv r0, iv p1, rv r2] [(.ref r0)])) rfl rfl (hb hby d7_1)
  have pre3 : ∀ t, Steps p.tables e below (T2.setTop (mkF m 5 #[rv r0, iv p1, rv r2] [(.ref r0), (.int (0 : Int32))])) t → Steps p.tables e below (s₁.setTop (entryFrame m #[(.ref r0), (.int p1), (.ref r2)] 3)) t := by
    intro t kt
    refine pre1 _ ?_
    show Steps p.tables e below (s₁.setTop (mkF m 1 #[rv r0, iv p1, rv r2] [(.ref r0)])) _
    refine st2 _ ?_
    show Steps p.tables e below (T2.setTop (mkF m 4 #[rv r0, iv p1, rv r2] [(.int (0 : Int32))])) _
    refine XS.aloadN X2.here hx rfl (hb hby d7_4) rfl rfl ?_
    exact kt
  obtain ⟨T4, X4, e4, st4⟩ := getF X2 hx hZ hown (host := "") (Or.inl (hw _ (List.mem_of_getElem? (i := 21) rfl))) Via.refl e2 F_end_r0 (g := (mkF m 5 #[rv r0, iv p1, rv r2] [(.ref r0), (.int (0 : Int32))])) rfl rfl (hb hby d7_5)
  have pre6 : ∀ t, Steps p.tables e below (T4.setTop (mkF m 8 #[rv r0, iv p1, rv r2] [(.int en), (.int (0 : Int32))])) t → Steps p.tables e below (s₁.setTop (entryFrame m #[(.ref r0), (.int p1), (.ref r2)] 3)) t := by
    intro t kt
    refine pre3 _ ?_
    show Steps p.tables e below (T2.setTop (mkF m 5 #[rv r0, iv p1, rv r2] [(.ref r0), (.int (0 : Int32))])) _
    refine st4 _ ?_
    exact kt
  have hc8_5 : (0 : Int32) < en := hlt
  have pre7 : ∀ t, Steps p.tables e below (T4.setTop (mkF m 27 #[rv r0, iv p1, rv r2] [(.ref r0)])) t → Steps p.tables e below (s₁.setTop (entryFrame m #[(.ref r0), (.int p1), (.ref r2)] 3)) t := by
    intro t kt
    refine pre6 _ ?_
    show Steps p.tables e below (T4.setTop (mkF m 8 #[rv r0, iv p1, rv r2] [(.int en), (.int (0 : Int32))])) _
    refine XS.icmpYes X4.here hx rfl (pc0 := 8) (pc' := 26) rfl (hb hby d7_8) rfl (tlt hc8_5).1 (by decide) (by decide) ?_
    refine XS.aloadN X4.here hx rfl (hb hby d7_26) rfl rfl ?_
    exact kt
  obtain ⟨T8, X8, e8, st8⟩ := getF X4 hx hZ hown (host := "") (Or.inl (hw _ (List.mem_of_getElem? (i := 17) rfl))) Via.refl e4 F_bytes_r0 (g := (mkF m 27 #[rv r0, iv p1, rv r2] [(.ref r0)])) rfl rfl (hb hby d7_27)
  have pre9 : ∀ t, Steps p.tables e below (T8.setTop (mkF m 32 #[rv r0, iv p1, rv r2] [(.ref r0), (.ref r0), (.ref ab)])) t → Steps p.tables e below (s₁.setTop (entryFrame m #[(.ref r0), (.int p1), (.ref r2)] 3)) t := by
    intro t kt
    refine pre7 _ ?_
    show Steps p.tables e below (T4.setTop (mkF m 27 #[rv r0, iv p1, rv r2] [(.ref r0)])) _
    refine st8 _ ?_
    show Steps p.tables e below (T8.setTop (mkF m 30 #[rv r0, iv p1, rv r2] [(.ref ab)])) _
    refine XS.aloadN X8.here hx rfl (hb hby d7_30) rfl rfl ?_
    refine XS.dup X8.here hx rfl (hb hby d7_31) rfl rfl ?_
    exact kt
  obtain ⟨T10, X10, e10, st10⟩ := getF X8 hx hZ hown (host := "") (Or.inl (hw _ (List.mem_of_getElem? (i := 19) rfl))) Via.refl e8 F_position_r0 (g := (mkF m 32 #[rv r0, iv p1, rv r2] [(.ref r0), (.ref r0), (.ref ab)])) rfl rfl (hb hby d7_32)
  have pre11 : ∀ t, Steps p.tables e below (T10.setTop (mkF m 38 #[rv r0, iv p1, rv r2] [(.int (1 : Int32)), (.ref r0), (.int (0 : Int32)), (.ref ab)])) t → Steps p.tables e below (s₁.setTop (entryFrame m #[(.ref r0), (.int p1), (.ref r2)] 3)) t := by
    intro t kt
    refine pre9 _ ?_
    show Steps p.tables e below (T8.setTop (mkF m 32 #[rv r0, iv p1, rv r2] [(.ref r0), (.ref r0), (.ref ab)])) _
    refine st10 _ ?_
    show Steps p.tables e below (T10.setTop (mkF m 35 #[rv r0, iv p1, rv r2] [(.int (0 : Int32)), (.ref r0), (.ref ab)])) _
    refine XS.dupX1 X10.here hx rfl (hb hby d7_35) rfl rfl rfl ?_
    refine XS.iconst X10.here hx rfl (hb hby d7_36) ?_
    refine XS.iadd X10.here hx rfl (hb hby d7_37) rfl ?_
    show Steps p.tables e below (T10.setTop (mkF m 38 #[rv r0, iv p1, rv r2] [(.int ((0 : Int32) + (1 : Int32))), (.ref r0), (.int (0 : Int32)), (.ref ab)])) _
    rw [show ((0 : Int32) + (1 : Int32)) = (1 : Int32) from (by decide)]
    exact kt
  obtain ⟨T12, h12, X12, e12, W12, st12⟩ := putF X10 hx hZ hown (host := "") (Or.inl (hw _ (List.mem_of_getElem? (i := 19) rfl))) Via.refl e10 F_position_r0 E_r0 (Or.inl (hw _ (List.mem_of_getElem? (i := 20) rfl))) (hw _ (List.mem_of_getElem? (i := 6) rfl)) (ty := .int) (by decide) rfl rfl (g := (mkF m 38 #[rv r0, iv p1, rv r2] [(.int (1 : Int32)), (.ref r0), (.int (0 : Int32)), (.ref ab)])) rfl rfl (hb hby d7_38)
  have Fw12 : Fld Z h12 r0 "com/example/fair_witness/fairwitness/attestation/DerReader" "position" "I" (.int (1 : Int32)) := F_position_r0.same W12
  have K12 : Keep h0 h12 [r0] := (Keep.refl h0 [r0]).wr W12 (Or.inl (List.mem_of_getElem? (i := 0) rfl))
  have N12 := Fr.snoc X12 N0 g_r0
  obtain ⟨cl13, Ar13, q13, S13, M13, H13, G13⟩ := id (V_ab.other W12 (Exa.ne (E_ab.wr W12) (E_r0.wr W12) (by decide)))
  have hin13 : ¬ ((0 : Int32) < 0 ∨ cl13.slots.size ≤ ((0 : Int32)).toNatClampNeg) := inb_of S13 ⟨by decide, by decide⟩
  have hat13 : cl13.slots[((0 : Int32)).toNatClampNeg]? = some (.int dd0) := H13.at hin13 rfl
  have pre14 : ∀ t, Steps p.tables e below (T12.setTop (mkF m 46 #[rv r0, iv p1, rv r2] [(.int w)])) t → Steps p.tables e below (s₁.setTop (entryFrame m #[(.ref r0), (.int p1), (.ref r2)] 3)) t := by
    intro t kt
    refine pre11 _ ?_
    show Steps p.tables e below (T10.setTop (mkF m 38 #[rv r0, iv p1, rv r2] [(.int (1 : Int32)), (.ref r0), (.int (0 : Int32)), (.ref ab)])) _
    refine st12 _ ?_
    show Steps p.tables e below (T12.setTop (mkF m 41 #[rv r0, iv p1, rv r2] [(.int (0 : Int32)), (.ref ab)])) _
    refine X12.baloadBytes hx (j := (0 : Int32)) (v := (.int dd0)) (by rw [e12]; exact Ar13.1) (State.isArrayOf_alike hZ.alike Ar13.2.1) Ar13.2.2 hin13 hat13 (g := (mkF m 41 #[rv r0, iv p1, rv r2] [(.int (0 : Int32)), (.ref ab)])) rfl rfl (hb hby d7_41) _ ?_
    show Steps p.tables e below (T12.setTop (mkF m 42 #[rv r0, iv p1, rv r2] [(.int dd0)])) _
    refine XS.sipush X12.here hx rfl (hb hby d7_42) ?_
    refine XS.iand X12.here hx rfl (hb hby d7_45) rfl ?_
    show Steps p.tables e below (T12.setTop (mkF m 46 #[rv r0, iv p1, rv r2] [(.int (dd0 &&& (255 : Int32)))])) _
    rw [show (dd0 &&& (255 : Int32)) = w from hv]
    exact kt
  obtain ⟨fs, hr, hrun, hended, hW, hsame⟩ := X12.leave (v := some (.int w)) (fun h => by rw [Bd.returns] at h; cases h)
  refine ⟨_, _, pre14 _ ?_, hrun, hended, _, _, rfl, ?_, ⟨_, rfl⟩, hW, hsame.mono (by decide) (by decide)⟩
  · show Steps p.tables e below (T12.setTop (mkF m 46 #[rv r0, iv p1, rv r2] [(.int w)])) _
    exact retI X12 hx Bd.returns (hb hby d7_46) hr
  · show Q7i0 Z r0 p1 r2 ab kc dd0 dd1 dd2 dd3 dd4 dd5 dd6 dd7 en w h0 n0 _ T12.heap _
    rw [e12]
    exact ⟨rfl, N12, K12, (F_bytes_r0.other W12 (Or.inr (slot_ne (Or.inr (hw _ (List.mem_of_getElem? (i := 18) rfl))) (Or.inl (hw _ (List.mem_of_getElem? (i := 20) rfl))) (by decide) (t := (.array .byte)) (t' := .int) (by decide) (by decide)))), Fw12, (F_end_r0.other W12 (Or.inr (slot_ne (Or.inr (hw _ (List.mem_of_getElem? (i := 22) rfl))) (Or.inl (hw _ (List.mem_of_getElem? (i := 20) rfl))) (by decide) (t := .int) (t' := .int) (by decide) (by decide))))⟩

theorem ef_7i1 (m : MethodId) (x0 : Addr) (x1 : Int32) (x2 : Addr) : entryFrame m #[(.ref x0), (.int x1), (.ref x2)] 3 = mkF m 0 #[.val (.ref x0), .val (.int x1), .val (.ref x2)] [] := by first | (simp [entryFrame, mkF, argsToLocals, Value.category]; done) | rfl
def Q7i1 (Z : State) (r0 : Addr) (p1 : Int32) (r2 : Addr) (ab : Addr) (kc : ClassId) (dd0 : Int32) (dd1 : Int32) (dd2 : Int32) (dd3 : Int32) (dd4 : Int32) (dd5 : Int32) (dd6 : Int32) (dd7 : Int32) (en : Int32) (w : Int32) (h0 : Heap) (n0 : Nat) (v : Option Value) (h : Heap) (L : List Loc) : Prop := v = some (.int w) ∧ Fr n0 L ∧ Keep h0 h [r0] ∧ Fld Z h r0 "com/example/fair_witness/fairwitness/attestation/DerReader" "bytes" "[B" (.ref ab) ∧ Fld Z h r0 "com/example/fair_witness/fairwitness/attestation/DerReader" "position" "I" (.int (2 : Int32)) ∧ Fld Z h r0 "com/example/fair_witness/fairwitness/attestation/DerReader" "end" "I" (.int en)
set_option maxRecDepth 65536 in
set_option maxHeartbeats 40000000 in
theorem rm7i1 (l : Launch) (Z : State) (a0 : Array Value) (hw : ∀ d ∈ tables_1, d.before a0 Z = true) (ws : List Jvm.Cond) (r0 : Addr) (p1 : Int32) (r2 : Addr) (ab : Addr) (kc : ClassId) (dd0 : Int32) (dd1 : Int32) (dd2 : Int32) (dd3 : Int32) (dd4 : Int32) (dd5 : Int32) (dd6 : Int32) (dd7 : Int32) (en : Int32) (w : Int32) (h0 : Heap) (n0 : Nat) (Z0 : n0 ≤ h0.size) (F_bytes_r0 : Fld Z h0 r0 "com/example/fair_witness/fairwitness/attestation/DerReader" "bytes" "[B" (.ref ab)) (F_position_r0 : Fld Z h0 r0 "com/example/fair_witness/fairwitness/attestation/DerReader" "position" "I" (.int (1 : Int32))) (F_end_r0 : Fld Z h0 r0 "com/example/fair_witness/fairwitness/attestation/DerReader" "end" "I" (.int en)) (E_r0 : Exa Z h0 r0 "com/example/fair_witness/fairwitness/attestation/DerReader") (g_r0 : n0 ≤ r0) (V_ab : Arv Z h0 ab kc .byte (8 : Int32) [(.int dd0), (.int dd1), (.int dd2), (.int dd3), (.int dd4), (.int dd5), (.int dd6), (.int dd7)] (.int (0 : Int32))) (E_ab : Exa Z h0 ab "[B") (hlt : (1 : Int32) < en) (hv : (dd1 &&& (255 : Int32)) = w) :
    MetFree l (⟨"com/example/fair_witness/fairwitness/attestation/DerReader", "nextByte", "(ILjava/lang/String;)I"⟩ : MethodName) (head1 (Jvm.Cond.code (⟨"com/example/fair_witness/fairwitness/attestation/DerReader", "nextByte", "(ILjava/lang/String;)I"⟩ : MethodName) prog_10_method_24_code 3 (some .int) :: ws) ({ frames := 0, cells := 0, slots := 0, locals := 0 } : Room)) (fun a U => a = #[(.ref r0), (.int p1), (.ref r2)] ∧ Z.Warmed39 U.vm ∧ U.heap = h0) (fun _ _ _ _ _ => True) (fun _ U o U' => ∃ v L, o = .returned v ∧ Q7i1 Z r0 p1 r2 ab kc dd0 dd1 dd2 dd3 dd4 dd5 dd6 dd7 en w h0 n0 v U'.heap L ∧ FrameEnd U o U' L ({ frames := 0, cells := 0, slots := 0, locals := 0 } : Room).cells ({ frames := 0, cells := 0, slots := 0, locals := 0 } : Room).slots) := by
  refine MetFree.of_bodySF (plainFor_of_name pn1) hisR ?_
  intro p e s m args below meth c s₁ Bd hml0 hP hK
  obtain ⟨rfl, hZ, hh⟩ := hP
  have hx := Bd.exec
  have hby := Bd.bytes
  have hml : c.maxLocals = 3 := hml0
  have hown : s.vm.findClass "com/example/fair_witness/fairwitness/attestation/DerReader" = some m.cls := findClass_of_methodNamed Bd.named
  have hnm := (name_of_methodNamed Bd.named Bd.method).1
  have X0 : Stand p l e ({ frames := 0, cells := 0, slots := 0, locals := 0 } : Room) s m #[(.ref r0), (.int p1), (.ref r2)] below meth c s₁ [] 0 0 := Stand.of_body Bd
  have e0 : s₁.heap = h0 := by rw [← hh, Bd.state]; rfl
  have N0 := Fr.nil n0
  have pre0 : ∀ t, Steps p.tables e below (s₁.setTop (mkF m 0 #[rv r0, iv p1, rv r2] [])) t → Steps p.tables e below (s₁.setTop (entryFrame m #[(.ref r0), (.int p1), (.ref r2)] 3)) t := fun t k => castTop (ef_7i1 m r0 p1 r2) k
  have pre1 : ∀ t, Steps p.tables e below (s₁.setTop (mkF m 1 #[rv r0, iv p1, rv r2] [(.ref r0)])) t → Steps p.tables e below (s₁.setTop (entryFrame m #[(.ref r0), (.int p1), (.ref r2)] 3)) t := by
    intro t kt
    refine pre0 _ ?_
    show Steps p.tables e below (s₁.setTop (mkF m 0 #[rv r0, iv p1, rv r2] [])) _
    refine XS.aloadN X0.here hx rfl (hb hby d7_0) rfl rfl ?_
    exact kt
  obtain ⟨T2, X2, e2, st2⟩ := getF X0 hx hZ hown (host := "") (Or.inl (hw _ (List.mem_of_getElem? (i := 19) rfl))) Via.refl e0 F_position_r0 (g := (mkF m 1 #[rv r0, iv p1, rv r2] [(.ref r0)])) rfl rfl (hb hby d7_1)
  have pre3 : ∀ t, Steps p.tables e below (T2.setTop (mkF m 5 #[rv r0, iv p1, rv r2] [(.ref r0), (.int (1 : Int32))])) t → Steps p.tables e below (s₁.setTop (entryFrame m #[(.ref r0), (.int p1), (.ref r2)] 3)) t := by
    intro t kt
    refine pre1 _ ?_
    show Steps p.tables e below (s₁.setTop (mkF m 1 #[rv r0, iv p1, rv r2] [(.ref r0)])) _
    refine st2 _ ?_
    show Steps p.tables e below (T2.setTop (mkF m 4 #[rv r0, iv p1, rv r2] [(.int (1 : Int32))])) _
    refine XS.aloadN X2.here hx rfl (hb hby d7_4) rfl rfl ?_
    exact kt
  obtain ⟨T4, X4, e4, st4⟩ := getF X2 hx hZ hown (host := "") (Or.inl (hw _ (List.mem_of_getElem? (i := 21) rfl))) Via.refl e2 F_end_r0 (g := (mkF m 5 #[rv r0, iv p1, rv r2] [(.ref r0), (.int (1 : Int32))])) rfl rfl (hb hby d7_5)
  have pre6 : ∀ t, Steps p.tables e below (T4.setTop (mkF m 8 #[rv r0, iv p1, rv r2] [(.int en), (.int (1 : Int32))])) t → Steps p.tables e below (s₁.setTop (entryFrame m #[(.ref r0), (.int p1), (.ref r2)] 3)) t := by
    intro t kt
    refine pre3 _ ?_
    show Steps p.tables e below (T2.setTop (mkF m 5 #[rv r0, iv p1, rv r2] [(.ref r0), (.int (1 : Int32))])) _
    refine st4 _ ?_
    exact kt
  have hc8_5 : (1 : Int32) < en := hlt
  have pre7 : ∀ t, Steps p.tables e below (T4.setTop (mkF m 27 #[rv r0, iv p1, rv r2] [(.ref r0)])) t → Steps p.tables e below (s₁.setTop (entryFrame m #[(.ref r0), (.int p1), (.ref r2)] 3)) t := by
    intro t kt
    refine pre6 _ ?_
    show Steps p.tables e below (T4.setTop (mkF m 8 #[rv r0, iv p1, rv r2] [(.int en), (.int (1 : Int32))])) _
    refine XS.icmpYes X4.here hx rfl (pc0 := 8) (pc' := 26) rfl (hb hby d7_8) rfl (tlt hc8_5).1 (by decide) (by decide) ?_
    refine XS.aloadN X4.here hx rfl (hb hby d7_26) rfl rfl ?_
    exact kt
  obtain ⟨T8, X8, e8, st8⟩ := getF X4 hx hZ hown (host := "") (Or.inl (hw _ (List.mem_of_getElem? (i := 17) rfl))) Via.refl e4 F_bytes_r0 (g := (mkF m 27 #[rv r0, iv p1, rv r2] [(.ref r0)])) rfl rfl (hb hby d7_27)
  have pre9 : ∀ t, Steps p.tables e below (T8.setTop (mkF m 32 #[rv r0, iv p1, rv r2] [(.ref r0), (.ref r0), (.ref ab)])) t → Steps p.tables e below (s₁.setTop (entryFrame m #[(.ref r0), (.int p1), (.ref r2)] 3)) t := by
    intro t kt
    refine pre7 _ ?_
    show Steps p.tables e below (T4.setTop (mkF m 27 #[rv r0, iv p1, rv r2] [(.ref r0)])) _
    refine st8 _ ?_
    show Steps p.tables e below (T8.setTop (mkF m 30 #[rv r0, iv p1, rv r2] [(.ref ab)])) _
    refine XS.aloadN X8.here hx rfl (hb hby d7_30) rfl rfl ?_
    refine XS.dup X8.here hx rfl (hb hby d7_31) rfl rfl ?_
    exact kt
  obtain ⟨T10, X10, e10, st10⟩ := getF X8 hx hZ hown (host := "") (Or.inl (hw _ (List.mem_of_getElem? (i := 19) rfl))) Via.refl e8 F_position_r0 (g := (mkF m 32 #[rv r0, iv p1, rv r2] [(.ref r0), (.ref r0), (.ref ab)])) rfl rfl (hb hby d7_32)
  have pre11 : ∀ t, Steps p.tables e below (T10.setTop (mkF m 38 #[rv r0, iv p1, rv r2] [(.int (2 : Int32)), (.ref r0), (.int (1 : Int32)), (.ref ab)])) t → Steps p.tables e below (s₁.setTop (entryFrame m #[(.ref r0), (.int p1), (.ref r2)] 3)) t := by
    intro t kt
    refine pre9 _ ?_
    show Steps p.tables e below (T8.setTop (mkF m 32 #[rv r0, iv p1, rv r2] [(.ref r0), (.ref r0), (.ref ab)])) _
    refine st10 _ ?_
    show Steps p.tables e below (T10.setTop (mkF m 35 #[rv r0, iv p1, rv r2] [(.int (1 : Int32)), (.ref r0), (.ref ab)])) _
    refine XS.dupX1 X10.here hx rfl (hb hby d7_35) rfl rfl rfl ?_
    refine XS.iconst X10.here hx rfl (hb hby d7_36) ?_
    refine XS.iadd X10.here hx rfl (hb hby d7_37) rfl ?_
    show Steps p.tables e below (T10.setTop (mkF m 38 #[rv r0, iv p1, rv r2] [(.int ((1 : Int32) + (1 : Int32))), (.ref r0), (.int (1 : Int32)), (.ref ab)])) _
    rw [show ((1 : Int32) + (1 : Int32)) = (2 : Int32) from (by decide)]
    exact kt
  obtain ⟨T12, h12, X12, e12, W12, st12⟩ := putF X10 hx hZ hown (host := "") (Or.inl (hw _ (List.mem_of_getElem? (i := 19) rfl))) Via.refl e10 F_position_r0 E_r0 (Or.inl (hw _ (List.mem_of_getElem? (i := 20) rfl))) (hw _ (List.mem_of_getElem? (i := 6) rfl)) (ty := .int) (by decide) rfl rfl (g := (mkF m 38 #[rv r0, iv p1, rv r2] [(.int (2 : Int32)), (.ref r0), (.int (1 : Int32)), (.ref ab)])) rfl rfl (hb hby d7_38)
  have Fw12 : Fld Z h12 r0 "com/example/fair_witness/fairwitness/attestation/DerReader" "position" "I" (.int (2 : Int32)) := F_position_r0.same W12
  have K12 : Keep h0 h12 [r0] := (Keep.refl h0 [r0]).wr W12 (Or.inl (List.mem_of_getElem? (i := 0) rfl))
  have N12 := Fr.snoc X12 N0 g_r0
  obtain ⟨cl13, Ar13, q13, S13, M13, H13, G13⟩ := id (V_ab.other W12 (Exa.ne (E_ab.wr W12) (E_r0.wr W12) (by decide)))
  have hin13 : ¬ ((1 : Int32) < 0 ∨ cl13.slots.size ≤ ((1 : Int32)).toNatClampNeg) := inb_of S13 ⟨by decide, by decide⟩
  have hat13 : cl13.slots[((1 : Int32)).toNatClampNeg]? = some (.int dd1) := H13.at hin13 rfl
  have pre14 : ∀ t, Steps p.tables e below (T12.setTop (mkF m 46 #[rv r0, iv p1, rv r2] [(.int w)])) t → Steps p.tables e below (s₁.setTop (entryFrame m #[(.ref r0), (.int p1), (.ref r2)] 3)) t := by
    intro t kt
    refine pre11 _ ?_
    show Steps p.tables e below (T10.setTop (mkF m 38 #[rv r0, iv p1, rv r2] [(.int (2 : Int32)), (.ref r0), (.int (1 : Int32)), (.ref ab)])) _
    refine st12 _ ?_
    show Steps p.tables e below (T12.setTop (mkF m 41 #[rv r0, iv p1, rv r2] [(.int (1 : Int32)), (.ref ab)])) _
    refine X12.baloadBytes hx (j := (1 : Int32)) (v := (.int dd1)) (by rw [e12]; exact Ar13.1) (State.isArrayOf_alike hZ.alike Ar13.2.1) Ar13.2.2 hin13 hat13 (g := (mkF m 41 #[rv r0, iv p1, rv r2] [(.int (1 : Int32)), (.ref ab)])) rfl rfl (hb hby d7_41) _ ?_
    show Steps p.tables e below (T12.setTop (mkF m 42 #[rv r0, iv p1, rv r2] [(.int dd1)])) _
    refine XS.sipush X12.here hx rfl (hb hby d7_42) ?_
    refine XS.iand X12.here hx rfl (hb hby d7_45) rfl ?_
    show Steps p.tables e below (T12.setTop (mkF m 46 #[rv r0, iv p1, rv r2] [(.int (dd1 &&& (255 : Int32)))])) _
    rw [show (dd1 &&& (255 : Int32)) = w from hv]
    exact kt
  obtain ⟨fs, hr, hrun, hended, hW, hsame⟩ := X12.leave (v := some (.int w)) (fun h => by rw [Bd.returns] at h; cases h)
  refine ⟨_, _, pre14 _ ?_, hrun, hended, _, _, rfl, ?_, ⟨_, rfl⟩, hW, hsame.mono (by decide) (by decide)⟩
  · show Steps p.tables e below (T12.setTop (mkF m 46 #[rv r0, iv p1, rv r2] [(.int w)])) _
    exact retI X12 hx Bd.returns (hb hby d7_46) hr
  · show Q7i1 Z r0 p1 r2 ab kc dd0 dd1 dd2 dd3 dd4 dd5 dd6 dd7 en w h0 n0 _ T12.heap _
    rw [e12]
    exact ⟨rfl, N12, K12, (F_bytes_r0.other W12 (Or.inr (slot_ne (Or.inr (hw _ (List.mem_of_getElem? (i := 18) rfl))) (Or.inl (hw _ (List.mem_of_getElem? (i := 20) rfl))) (by decide) (t := (.array .byte)) (t' := .int) (by decide) (by decide)))), Fw12, (F_end_r0.other W12 (Or.inr (slot_ne (Or.inr (hw _ (List.mem_of_getElem? (i := 22) rfl))) (Or.inl (hw _ (List.mem_of_getElem? (i := 20) rfl))) (by decide) (t := .int) (t' := .int) (by decide) (by decide))))⟩

theorem ef_7i2 (m : MethodId) (x0 : Addr) (x1 : Int32) (x2 : Addr) : entryFrame m #[(.ref x0), (.int x1), (.ref x2)] 3 = mkF m 0 #[.val (.ref x0), .val (.int x1), .val (.ref x2)] [] := by first | (simp [entryFrame, mkF, argsToLocals, Value.category]; done) | rfl
def Q7i2 (Z : State) (r0 : Addr) (p1 : Int32) (r2 : Addr) (ab : Addr) (kc : ClassId) (dd0 : Int32) (dd1 : Int32) (dd2 : Int32) (dd3 : Int32) (dd4 : Int32) (dd5 : Int32) (dd6 : Int32) (dd7 : Int32) (en : Int32) (w : Int32) (h0 : Heap) (n0 : Nat) (v : Option Value) (h : Heap) (L : List Loc) : Prop := v = some (.int w) ∧ Fr n0 L ∧ Keep h0 h [r0] ∧ Fld Z h r0 "com/example/fair_witness/fairwitness/attestation/DerReader" "bytes" "[B" (.ref ab) ∧ Fld Z h r0 "com/example/fair_witness/fairwitness/attestation/DerReader" "position" "I" (.int (3 : Int32)) ∧ Fld Z h r0 "com/example/fair_witness/fairwitness/attestation/DerReader" "end" "I" (.int en)
set_option maxRecDepth 65536 in
set_option maxHeartbeats 40000000 in
theorem rm7i2 (l : Launch) (Z : State) (a0 : Array Value) (hw : ∀ d ∈ tables_1, d.before a0 Z = true) (ws : List Jvm.Cond) (r0 : Addr) (p1 : Int32) (r2 : Addr) (ab : Addr) (kc : ClassId) (dd0 : Int32) (dd1 : Int32) (dd2 : Int32) (dd3 : Int32) (dd4 : Int32) (dd5 : Int32) (dd6 : Int32) (dd7 : Int32) (en : Int32) (w : Int32) (h0 : Heap) (n0 : Nat) (Z0 : n0 ≤ h0.size) (F_bytes_r0 : Fld Z h0 r0 "com/example/fair_witness/fairwitness/attestation/DerReader" "bytes" "[B" (.ref ab)) (F_position_r0 : Fld Z h0 r0 "com/example/fair_witness/fairwitness/attestation/DerReader" "position" "I" (.int (2 : Int32))) (F_end_r0 : Fld Z h0 r0 "com/example/fair_witness/fairwitness/attestation/DerReader" "end" "I" (.int en)) (E_r0 : Exa Z h0 r0 "com/example/fair_witness/fairwitness/attestation/DerReader") (g_r0 : n0 ≤ r0) (V_ab : Arv Z h0 ab kc .byte (8 : Int32) [(.int dd0), (.int dd1), (.int dd2), (.int dd3), (.int dd4), (.int dd5), (.int dd6), (.int dd7)] (.int (0 : Int32))) (E_ab : Exa Z h0 ab "[B") (hlt : (2 : Int32) < en) (hv : (dd2 &&& (255 : Int32)) = w) :
    MetFree l (⟨"com/example/fair_witness/fairwitness/attestation/DerReader", "nextByte", "(ILjava/lang/String;)I"⟩ : MethodName) (head1 (Jvm.Cond.code (⟨"com/example/fair_witness/fairwitness/attestation/DerReader", "nextByte", "(ILjava/lang/String;)I"⟩ : MethodName) prog_10_method_24_code 3 (some .int) :: ws) ({ frames := 0, cells := 0, slots := 0, locals := 0 } : Room)) (fun a U => a = #[(.ref r0), (.int p1), (.ref r2)] ∧ Z.Warmed39 U.vm ∧ U.heap = h0) (fun _ _ _ _ _ => True) (fun _ U o U' => ∃ v L, o = .returned v ∧ Q7i2 Z r0 p1 r2 ab kc dd0 dd1 dd2 dd3 dd4 dd5 dd6 dd7 en w h0 n0 v U'.heap L ∧ FrameEnd U o U' L ({ frames := 0, cells := 0, slots := 0, locals := 0 } : Room).cells ({ frames := 0, cells := 0, slots := 0, locals := 0 } : Room).slots) := by
  refine MetFree.of_bodySF (plainFor_of_name pn1) hisR ?_
  intro p e s m args below meth c s₁ Bd hml0 hP hK
  obtain ⟨rfl, hZ, hh⟩ := hP
  have hx := Bd.exec
  have hby := Bd.bytes
  have hml : c.maxLocals = 3 := hml0
  have hown : s.vm.findClass "com/example/fair_witness/fairwitness/attestation/DerReader" = some m.cls := findClass_of_methodNamed Bd.named
  have hnm := (name_of_methodNamed Bd.named Bd.method).1
  have X0 : Stand p l e ({ frames := 0, cells := 0, slots := 0, locals := 0 } : Room) s m #[(.ref r0), (.int p1), (.ref r2)] below meth c s₁ [] 0 0 := Stand.of_body Bd
  have e0 : s₁.heap = h0 := by rw [← hh, Bd.state]; rfl
  have N0 := Fr.nil n0
  have pre0 : ∀ t, Steps p.tables e below (s₁.setTop (mkF m 0 #[rv r0, iv p1, rv r2] [])) t → Steps p.tables e below (s₁.setTop (entryFrame m #[(.ref r0), (.int p1), (.ref r2)] 3)) t := fun t k => castTop (ef_7i2 m r0 p1 r2) k
  have pre1 : ∀ t, Steps p.tables e below (s₁.setTop (mkF m 1 #[rv r0, iv p1, rv r2] [(.ref r0)])) t → Steps p.tables e below (s₁.setTop (entryFrame m #[(.ref r0), (.int p1), (.ref r2)] 3)) t := by
    intro t kt
    refine pre0 _ ?_
    show Steps p.tables e below (s₁.setTop (mkF m 0 #[rv r0, iv p1, rv r2] [])) _
    refine XS.aloadN X0.here hx rfl (hb hby d7_0) rfl rfl ?_
    exact kt
  obtain ⟨T2, X2, e2, st2⟩ := getF X0 hx hZ hown (host := "") (Or.inl (hw _ (List.mem_of_getElem? (i := 19) rfl))) Via.refl e0 F_position_r0 (g := (mkF m 1 #[rv r0, iv p1, rv r2] [(.ref r0)])) rfl rfl (hb hby d7_1)
  have pre3 : ∀ t, Steps p.tables e below (T2.setTop (mkF m 5 #[rv r0, iv p1, rv r2] [(.ref r0), (.int (2 : Int32))])) t → Steps p.tables e below (s₁.setTop (entryFrame m #[(.ref r0), (.int p1), (.ref r2)] 3)) t := by
    intro t kt
    refine pre1 _ ?_
    show Steps p.tables e below (s₁.setTop (mkF m 1 #[rv r0, iv p1, rv r2] [(.ref r0)])) _
    refine st2 _ ?_
    show Steps p.tables e below (T2.setTop (mkF m 4 #[rv r0, iv p1, rv r2] [(.int (2 : Int32))])) _
    refine XS.aloadN X2.here hx rfl (hb hby d7_4) rfl rfl ?_
    exact kt
  obtain ⟨T4, X4, e4, st4⟩ := getF X2 hx hZ hown (host := "") (Or.inl (hw _ (List.mem_of_getElem? (i := 21) rfl))) Via.refl e2 F_end_r0 (g := (mkF m 5 #[rv r0, iv p1, rv r2] [(.ref r0), (.int (2 : Int32))])) rfl rfl (hb hby d7_5)
  have pre6 : ∀ t, Steps p.tables e below (T4.setTop (mkF m 8 #[rv r0, iv p1, rv r2] [(.int en), (.int (2 : Int32))])) t → Steps p.tables e below (s₁.setTop (entryFrame m #[(.ref r0), (.int p1), (.ref r2)] 3)) t := by
    intro t kt
    refine pre3 _ ?_
    show Steps p.tables e below (T2.setTop (mkF m 5 #[rv r0, iv p1, rv r2] [(.ref r0), (.int (2 : Int32))])) _
    refine st4 _ ?_
    exact kt
  have hc8_5 : (2 : Int32) < en := hlt
  have pre7 : ∀ t, Steps p.tables e below (T4.setTop (mkF m 27 #[rv r0, iv p1, rv r2] [(.ref r0)])) t → Steps p.tables e below (s₁.setTop (entryFrame m #[(.ref r0), (.int p1), (.ref r2)] 3)) t := by
    intro t kt
    refine pre6 _ ?_
    show Steps p.tables e below (T4.setTop (mkF m 8 #[rv r0, iv p1, rv r2] [(.int en), (.int (2 : Int32))])) _
    refine XS.icmpYes X4.here hx rfl (pc0 := 8) (pc' := 26) rfl (hb hby d7_8) rfl (tlt hc8_5).1 (by decide) (by decide) ?_
    refine XS.aloadN X4.here hx rfl (hb hby d7_26) rfl rfl ?_
    exact kt
  obtain ⟨T8, X8, e8, st8⟩ := getF X4 hx hZ hown (host := "") (Or.inl (hw _ (List.mem_of_getElem? (i := 17) rfl))) Via.refl e4 F_bytes_r0 (g := (mkF m 27 #[rv r0, iv p1, rv r2] [(.ref r0)])) rfl rfl (hb hby d7_27)
  have pre9 : ∀ t, Steps p.tables e below (T8.setTop (mkF m 32 #[rv r0, iv p1, rv r2] [(.ref r0), (.ref r0), (.ref ab)])) t → Steps p.tables e below (s₁.setTop (entryFrame m #[(.ref r0), (.int p1), (.ref r2)] 3)) t := by
    intro t kt
    refine pre7 _ ?_
    show Steps p.tables e below (T4.setTop (mkF m 27 #[rv r0, iv p1, rv r2] [(.ref r0)])) _
    refine st8 _ ?_
    show Steps p.tables e below (T8.setTop (mkF m 30 #[rv r0, iv p1, rv r2] [(.ref ab)])) _
    refine XS.aloadN X8.here hx rfl (hb hby d7_30) rfl rfl ?_
    refine XS.dup X8.here hx rfl (hb hby d7_31) rfl rfl ?_
    exact kt
  obtain ⟨T10, X10, e10, st10⟩ := getF X8 hx hZ hown (host := "") (Or.inl (hw _ (List.mem_of_getElem? (i := 19) rfl))) Via.refl e8 F_position_r0 (g := (mkF m 32 #[rv r0, iv p1, rv r2] [(.ref r0), (.ref r0), (.ref ab)])) rfl rfl (hb hby d7_32)
  have pre11 : ∀ t, Steps p.tables e below (T10.setTop (mkF m 38 #[rv r0, iv p1, rv r2] [(.int (3 : Int32)), (.ref r0), (.int (2 : Int32)), (.ref ab)])) t → Steps p.tables e below (s₁.setTop (entryFrame m #[(.ref r0), (.int p1), (.ref r2)] 3)) t := by
    intro t kt
    refine pre9 _ ?_
    show Steps p.tables e below (T8.setTop (mkF m 32 #[rv r0, iv p1, rv r2] [(.ref r0), (.ref r0), (.ref ab)])) _
    refine st10 _ ?_
    show Steps p.tables e below (T10.setTop (mkF m 35 #[rv r0, iv p1, rv r2] [(.int (2 : Int32)), (.ref r0), (.ref ab)])) _
    refine XS.dupX1 X10.here hx rfl (hb hby d7_35) rfl rfl rfl ?_
    refine XS.iconst X10.here hx rfl (hb hby d7_36) ?_
    refine XS.iadd X10.here hx rfl (hb hby d7_37) rfl ?_
    show Steps p.tables e below (T10.setTop (mkF m 38 #[rv r0, iv p1, rv r2] [(.int ((2 : Int32) + (1 : Int32))), (.ref r0), (.int (2 : Int32)), (.ref ab)])) _
    rw [show ((2 : Int32) + (1 : Int32)) = (3 : Int32) from (by decide)]
    exact kt
  obtain ⟨T12, h12, X12, e12, W12, st12⟩ := putF X10 hx hZ hown (host := "") (Or.inl (hw _ (List.mem_of_getElem? (i := 19) rfl))) Via.refl e10 F_position_r0 E_r0 (Or.inl (hw _ (List.mem_of_getElem? (i := 20) rfl))) (hw _ (List.mem_of_getElem? (i := 6) rfl)) (ty := .int) (by decide) rfl rfl (g := (mkF m 38 #[rv r0, iv p1, rv r2] [(.int (3 : Int32)), (.ref r0), (.int (2 : Int32)), (.ref ab)])) rfl rfl (hb hby d7_38)
  have Fw12 : Fld Z h12 r0 "com/example/fair_witness/fairwitness/attestation/DerReader" "position" "I" (.int (3 : Int32)) := F_position_r0.same W12
  have K12 : Keep h0 h12 [r0] := (Keep.refl h0 [r0]).wr W12 (Or.inl (List.mem_of_getElem? (i := 0) rfl))
  have N12 := Fr.snoc X12 N0 g_r0
  obtain ⟨cl13, Ar13, q13, S13, M13, H13, G13⟩ := id (V_ab.other W12 (Exa.ne (E_ab.wr W12) (E_r0.wr W12) (by decide)))
  have hin13 : ¬ ((2 : Int32) < 0 ∨ cl13.slots.size ≤ ((2 : Int32)).toNatClampNeg) := inb_of S13 ⟨by decide, by decide⟩
  have hat13 : cl13.slots[((2 : Int32)).toNatClampNeg]? = some (.int dd2) := H13.at hin13 rfl
  have pre14 : ∀ t, Steps p.tables e below (T12.setTop (mkF m 46 #[rv r0, iv p1, rv r2] [(.int w)])) t → Steps p.tables e below (s₁.setTop (entryFrame m #[(.ref r0), (.int p1), (.ref r2)] 3)) t := by
    intro t kt
    refine pre11 _ ?_
    show Steps p.tables e below (T10.setTop (mkF m 38 #[rv r0, iv p1, rv r2] [(.int (3 : Int32)), (.ref r0), (.int (2 : Int32)), (.ref ab)])) _
    refine st12 _ ?_
    show Steps p.tables e below (T12.setTop (mkF m 41 #[rv r0, iv p1, rv r2] [(.int (2 : Int32)), (.ref ab)])) _
    refine X12.baloadBytes hx (j := (2 : Int32)) (v := (.int dd2)) (by rw [e12]; exact Ar13.1) (State.isArrayOf_alike hZ.alike Ar13.2.1) Ar13.2.2 hin13 hat13 (g := (mkF m 41 #[rv r0, iv p1, rv r2] [(.int (2 : Int32)), (.ref ab)])) rfl rfl (hb hby d7_41) _ ?_
    show Steps p.tables e below (T12.setTop (mkF m 42 #[rv r0, iv p1, rv r2] [(.int dd2)])) _
    refine XS.sipush X12.here hx rfl (hb hby d7_42) ?_
    refine XS.iand X12.here hx rfl (hb hby d7_45) rfl ?_
    show Steps p.tables e below (T12.setTop (mkF m 46 #[rv r0, iv p1, rv r2] [(.int (dd2 &&& (255 : Int32)))])) _
    rw [show (dd2 &&& (255 : Int32)) = w from hv]
    exact kt
  obtain ⟨fs, hr, hrun, hended, hW, hsame⟩ := X12.leave (v := some (.int w)) (fun h => by rw [Bd.returns] at h; cases h)
  refine ⟨_, _, pre14 _ ?_, hrun, hended, _, _, rfl, ?_, ⟨_, rfl⟩, hW, hsame.mono (by decide) (by decide)⟩
  · show Steps p.tables e below (T12.setTop (mkF m 46 #[rv r0, iv p1, rv r2] [(.int w)])) _
    exact retI X12 hx Bd.returns (hb hby d7_46) hr
  · show Q7i2 Z r0 p1 r2 ab kc dd0 dd1 dd2 dd3 dd4 dd5 dd6 dd7 en w h0 n0 _ T12.heap _
    rw [e12]
    exact ⟨rfl, N12, K12, (F_bytes_r0.other W12 (Or.inr (slot_ne (Or.inr (hw _ (List.mem_of_getElem? (i := 18) rfl))) (Or.inl (hw _ (List.mem_of_getElem? (i := 20) rfl))) (by decide) (t := (.array .byte)) (t' := .int) (by decide) (by decide)))), Fw12, (F_end_r0.other W12 (Or.inr (slot_ne (Or.inr (hw _ (List.mem_of_getElem? (i := 22) rfl))) (Or.inl (hw _ (List.mem_of_getElem? (i := 20) rfl))) (by decide) (t := .int) (t' := .int) (by decide) (by decide))))⟩

theorem ef_7i3 (m : MethodId) (x0 : Addr) (x1 : Int32) (x2 : Addr) : entryFrame m #[(.ref x0), (.int x1), (.ref x2)] 3 = mkF m 0 #[.val (.ref x0), .val (.int x1), .val (.ref x2)] [] := by first | (simp [entryFrame, mkF, argsToLocals, Value.category]; done) | rfl
def Q7i3 (Z : State) (r0 : Addr) (p1 : Int32) (r2 : Addr) (ab : Addr) (kc : ClassId) (dd0 : Int32) (dd1 : Int32) (dd2 : Int32) (dd3 : Int32) (dd4 : Int32) (dd5 : Int32) (dd6 : Int32) (dd7 : Int32) (en : Int32) (w : Int32) (h0 : Heap) (n0 : Nat) (v : Option Value) (h : Heap) (L : List Loc) : Prop := v = some (.int w) ∧ Fr n0 L ∧ Keep h0 h [r0] ∧ Fld Z h r0 "com/example/fair_witness/fairwitness/attestation/DerReader" "bytes" "[B" (.ref ab) ∧ Fld Z h r0 "com/example/fair_witness/fairwitness/attestation/DerReader" "position" "I" (.int (4 : Int32)) ∧ Fld Z h r0 "com/example/fair_witness/fairwitness/attestation/DerReader" "end" "I" (.int en)
set_option maxRecDepth 65536 in
set_option maxHeartbeats 40000000 in
theorem rm7i3 (l : Launch) (Z : State) (a0 : Array Value) (hw : ∀ d ∈ tables_1, d.before a0 Z = true) (ws : List Jvm.Cond) (r0 : Addr) (p1 : Int32) (r2 : Addr) (ab : Addr) (kc : ClassId) (dd0 : Int32) (dd1 : Int32) (dd2 : Int32) (dd3 : Int32) (dd4 : Int32) (dd5 : Int32) (dd6 : Int32) (dd7 : Int32) (en : Int32) (w : Int32) (h0 : Heap) (n0 : Nat) (Z0 : n0 ≤ h0.size) (F_bytes_r0 : Fld Z h0 r0 "com/example/fair_witness/fairwitness/attestation/DerReader" "bytes" "[B" (.ref ab)) (F_position_r0 : Fld Z h0 r0 "com/example/fair_witness/fairwitness/attestation/DerReader" "position" "I" (.int (3 : Int32))) (F_end_r0 : Fld Z h0 r0 "com/example/fair_witness/fairwitness/attestation/DerReader" "end" "I" (.int en)) (E_r0 : Exa Z h0 r0 "com/example/fair_witness/fairwitness/attestation/DerReader") (g_r0 : n0 ≤ r0) (V_ab : Arv Z h0 ab kc .byte (8 : Int32) [(.int dd0), (.int dd1), (.int dd2), (.int dd3), (.int dd4), (.int dd5), (.int dd6), (.int dd7)] (.int (0 : Int32))) (E_ab : Exa Z h0 ab "[B") (hlt : (3 : Int32) < en) (hv : (dd3 &&& (255 : Int32)) = w) :
    MetFree l (⟨"com/example/fair_witness/fairwitness/attestation/DerReader", "nextByte", "(ILjava/lang/String;)I"⟩ : MethodName) (head1 (Jvm.Cond.code (⟨"com/example/fair_witness/fairwitness/attestation/DerReader", "nextByte", "(ILjava/lang/String;)I"⟩ : MethodName) prog_10_method_24_code 3 (some .int) :: ws) ({ frames := 0, cells := 0, slots := 0, locals := 0 } : Room)) (fun a U => a = #[(.ref r0), (.int p1), (.ref r2)] ∧ Z.Warmed39 U.vm ∧ U.heap = h0) (fun _ _ _ _ _ => True) (fun _ U o U' => ∃ v L, o = .returned v ∧ Q7i3 Z r0 p1 r2 ab kc dd0 dd1 dd2 dd3 dd4 dd5 dd6 dd7 en w h0 n0 v U'.heap L ∧ FrameEnd U o U' L ({ frames := 0, cells := 0, slots := 0, locals := 0 } : Room).cells ({ frames := 0, cells := 0, slots := 0, locals := 0 } : Room).slots) := by
  refine MetFree.of_bodySF (plainFor_of_name pn1) hisR ?_
  intro p e s m args below meth c s₁ Bd hml0 hP hK
  obtain ⟨rfl, hZ, hh⟩ := hP
  have hx := Bd.exec
  have hby := Bd.bytes
  have hml : c.maxLocals = 3 := hml0
  have hown : s.vm.findClass "com/example/fair_witness/fairwitness/attestation/DerReader" = some m.cls := findClass_of_methodNamed Bd.named
  have hnm := (name_of_methodNamed Bd.named Bd.method).1
  have X0 : Stand p l e ({ frames := 0, cells := 0, slots := 0, locals := 0 } : Room) s m #[(.ref r0), (.int p1), (.ref r2)] below meth c s₁ [] 0 0 := Stand.of_body Bd
  have e0 : s₁.heap = h0 := by rw [← hh, Bd.state]; rfl
  have N0 := Fr.nil n0
  have pre0 : ∀ t, Steps p.tables e below (s₁.setTop (mkF m 0 #[rv r0, iv p1, rv r2] [])) t → Steps p.tables e below (s₁.setTop (entryFrame m #[(.ref r0), (.int p1), (.ref r2)] 3)) t := fun t k => castTop (ef_7i3 m r0 p1 r2) k
  have pre1 : ∀ t, Steps p.tables e below (s₁.setTop (mkF m 1 #[rv r0, iv p1, rv r2] [(.ref r0)])) t → Steps p.tables e below (s₁.setTop (entryFrame m #[(.ref r0), (.int p1), (.ref r2)] 3)) t := by
    intro t kt
    refine pre0 _ ?_
    show Steps p.tables e below (s₁.setTop (mkF m 0 #[rv r0, iv p1, rv r2] [])) _
    refine XS.aloadN X0.here hx rfl (hb hby d7_0) rfl rfl ?_
    exact kt
  obtain ⟨T2, X2, e2, st2⟩ := getF X0 hx hZ hown (host := "") (Or.inl (hw _ (List.mem_of_getElem? (i := 19) rfl))) Via.refl e0 F_position_r0 (g := (mkF m 1 #[rv r0, iv p1, rv r2] [(.ref r0)])) rfl rfl (hb hby d7_1)
  have pre3 : ∀ t, Steps p.tables e below (T2.setTop (mkF m 5 #[rv r0, iv p1, rv r2] [(.ref r0), (.int (3 : Int32))])) t → Steps p.tables e below (s₁.setTop (entryFrame m #[(.ref r0), (.int p1), (.ref r2)] 3)) t := by
    intro t kt
    refine pre1 _ ?_
    show Steps p.tables e below (s₁.setTop (mkF m 1 #[rv r0, iv p1, rv r2] [(.ref r0)])) _
    refine st2 _ ?_
    show Steps p.tables e below (T2.setTop (mkF m 4 #[rv r0, iv p1, rv r2] [(.int (3 : Int32))])) _
    refine XS.aloadN X2.here hx rfl (hb hby d7_4) rfl rfl ?_
    exact kt
  obtain ⟨T4, X4, e4, st4⟩ := getF X2 hx hZ hown (host := "") (Or.inl (hw _ (List.mem_of_getElem? (i := 21) rfl))) Via.refl e2 F_end_r0 (g := (mkF m 5 #[rv r0, iv p1, rv r2] [(.ref r0), (.int (3 : Int32))])) rfl rfl (hb hby d7_5)
  have pre6 : ∀ t, Steps p.tables e below (T4.setTop (mkF m 8 #[rv r0, iv p1, rv r2] [(.int en), (.int (3 : Int32))])) t → Steps p.tables e below (s₁.setTop (entryFrame m #[(.ref r0), (.int p1), (.ref r2)] 3)) t := by
    intro t kt
    refine pre3 _ ?_
    show Steps p.tables e below (T2.setTop (mkF m 5 #[rv r0, iv p1, rv r2] [(.ref r0), (.int (3 : Int32))])) _
    refine st4 _ ?_
    exact kt
  have hc8_5 : (3 : Int32) < en := hlt
  have pre7 : ∀ t, Steps p.tables e below (T4.setTop (mkF m 27 #[rv r0, iv p1, rv r2] [(.ref r0)])) t → Steps p.tables e below (s₁.setTop (entryFrame m #[(.ref r0), (.int p1), (.ref r2)] 3)) t := by
    intro t kt
    refine pre6 _ ?_
    show Steps p.tables e below (T4.setTop (mkF m 8 #[rv r0, iv p1, rv r2] [(.int en), (.int (3 : Int32))])) _
    refine XS.icmpYes X4.here hx rfl (pc0 := 8) (pc' := 26) rfl (hb hby d7_8) rfl (tlt hc8_5).1 (by decide) (by decide) ?_
    refine XS.aloadN X4.here hx rfl (hb hby d7_26) rfl rfl ?_
    exact kt
  obtain ⟨T8, X8, e8, st8⟩ := getF X4 hx hZ hown (host := "") (Or.inl (hw _ (List.mem_of_getElem? (i := 17) rfl))) Via.refl e4 F_bytes_r0 (g := (mkF m 27 #[rv r0, iv p1, rv r2] [(.ref r0)])) rfl rfl (hb hby d7_27)
  have pre9 : ∀ t, Steps p.tables e below (T8.setTop (mkF m 32 #[rv r0, iv p1, rv r2] [(.ref r0), (.ref r0), (.ref ab)])) t → Steps p.tables e below (s₁.setTop (entryFrame m #[(.ref r0), (.int p1), (.ref r2)] 3)) t := by
    intro t kt
    refine pre7 _ ?_
    show Steps p.tables e below (T4.setTop (mkF m 27 #[rv r0, iv p1, rv r2] [(.ref r0)])) _
    refine st8 _ ?_
    show Steps p.tables e below (T8.setTop (mkF m 30 #[rv r0, iv p1, rv r2] [(.ref ab)])) _
    refine XS.aloadN X8.here hx rfl (hb hby d7_30) rfl rfl ?_
    refine XS.dup X8.here hx rfl (hb hby d7_31) rfl rfl ?_
    exact kt
  obtain ⟨T10, X10, e10, st10⟩ := getF X8 hx hZ hown (host := "") (Or.inl (hw _ (List.mem_of_getElem? (i := 19) rfl))) Via.refl e8 F_position_r0 (g := (mkF m 32 #[rv r0, iv p1, rv r2] [(.ref r0), (.ref r0), (.ref ab)])) rfl rfl (hb hby d7_32)
  have pre11 : ∀ t, Steps p.tables e below (T10.setTop (mkF m 38 #[rv r0, iv p1, rv r2] [(.int (4 : Int32)), (.ref r0), (.int (3 : Int32)), (.ref ab)])) t → Steps p.tables e below (s₁.setTop (entryFrame m #[(.ref r0), (.int p1), (.ref r2)] 3)) t := by
    intro t kt
    refine pre9 _ ?_
    show Steps p.tables e below (T8.setTop (mkF m 32 #[rv r0, iv p1, rv r2] [(.ref r0), (.ref r0), (.ref ab)])) _
    refine st10 _ ?_
    show Steps p.tables e below (T10.setTop (mkF m 35 #[rv r0, iv p1, rv r2] [(.int (3 : Int32)), (.ref r0), (.ref ab)])) _
    refine XS.dupX1 X10.here hx rfl (hb hby d7_35) rfl rfl rfl ?_
    refine XS.iconst X10.here hx rfl (hb hby d7_36) ?_
    refine XS.iadd X10.here hx rfl (hb hby d7_37) rfl ?_
    show Steps p.tables e below (T10.setTop (mkF m 38 #[rv r0, iv p1, rv r2] [(.int ((3 : Int32) + (1 : Int32))), (.ref r0), (.int (3 : Int32)), (.ref ab)])) _
    rw [show ((3 : Int32) + (1 : Int32)) = (4 : Int32) from (by decide)]
    exact kt
  obtain ⟨T12, h12, X12, e12, W12, st12⟩ := putF X10 hx hZ hown (host := "") (Or.inl (hw _ (List.mem_of_getElem? (i := 19) rfl))) Via.refl e10 F_position_r0 E_r0 (Or.inl (hw _ (List.mem_of_getElem? (i := 20) rfl))) (hw _ (List.mem_of_getElem? (i := 6) rfl)) (ty := .int) (by decide) rfl rfl (g := (mkF m 38 #[rv r0, iv p1, rv r2] [(.int (4 : Int32)), (.ref r0), (.int (3 : Int32)), (.ref ab)])) rfl rfl (hb hby d7_38)
  have Fw12 : Fld Z h12 r0 "com/example/fair_witness/fairwitness/attestation/DerReader" "position" "I" (.int (4 : Int32)) := F_position_r0.same W12
  have K12 : Keep h0 h12 [r0] := (Keep.refl h0 [r0]).wr W12 (Or.inl (List.mem_of_getElem? (i := 0) rfl))
  have N12 := Fr.snoc X12 N0 g_r0
  obtain ⟨cl13, Ar13, q13, S13, M13, H13, G13⟩ := id (V_ab.other W12 (Exa.ne (E_ab.wr W12) (E_r0.wr W12) (by decide)))
  have hin13 : ¬ ((3 : Int32) < 0 ∨ cl13.slots.size ≤ ((3 : Int32)).toNatClampNeg) := inb_of S13 ⟨by decide, by decide⟩
  have hat13 : cl13.slots[((3 : Int32)).toNatClampNeg]? = some (.int dd3) := H13.at hin13 rfl
  have pre14 : ∀ t, Steps p.tables e below (T12.setTop (mkF m 46 #[rv r0, iv p1, rv r2] [(.int w)])) t → Steps p.tables e below (s₁.setTop (entryFrame m #[(.ref r0), (.int p1), (.ref r2)] 3)) t := by
    intro t kt
    refine pre11 _ ?_
    show Steps p.tables e below (T10.setTop (mkF m 38 #[rv r0, iv p1, rv r2] [(.int (4 : Int32)), (.ref r0), (.int (3 : Int32)), (.ref ab)])) _
    refine st12 _ ?_
    show Steps p.tables e below (T12.setTop (mkF m 41 #[rv r0, iv p1, rv r2] [(.int (3 : Int32)), (.ref ab)])) _
    refine X12.baloadBytes hx (j := (3 : Int32)) (v := (.int dd3)) (by rw [e12]; exact Ar13.1) (State.isArrayOf_alike hZ.alike Ar13.2.1) Ar13.2.2 hin13 hat13 (g := (mkF m 41 #[rv r0, iv p1, rv r2] [(.int (3 : Int32)), (.ref ab)])) rfl rfl (hb hby d7_41) _ ?_
    show Steps p.tables e below (T12.setTop (mkF m 42 #[rv r0, iv p1, rv r2] [(.int dd3)])) _
    refine XS.sipush X12.here hx rfl (hb hby d7_42) ?_
    refine XS.iand X12.here hx rfl (hb hby d7_45) rfl ?_
    show Steps p.tables e below (T12.setTop (mkF m 46 #[rv r0, iv p1, rv r2] [(.int (dd3 &&& (255 : Int32)))])) _
    rw [show (dd3 &&& (255 : Int32)) = w from hv]
    exact kt
  obtain ⟨fs, hr, hrun, hended, hW, hsame⟩ := X12.leave (v := some (.int w)) (fun h => by rw [Bd.returns] at h; cases h)
  refine ⟨_, _, pre14 _ ?_, hrun, hended, _, _, rfl, ?_, ⟨_, rfl⟩, hW, hsame.mono (by decide) (by decide)⟩
  · show Steps p.tables e below (T12.setTop (mkF m 46 #[rv r0, iv p1, rv r2] [(.int w)])) _
    exact retI X12 hx Bd.returns (hb hby d7_46) hr
  · show Q7i3 Z r0 p1 r2 ab kc dd0 dd1 dd2 dd3 dd4 dd5 dd6 dd7 en w h0 n0 _ T12.heap _
    rw [e12]
    exact ⟨rfl, N12, K12, (F_bytes_r0.other W12 (Or.inr (slot_ne (Or.inr (hw _ (List.mem_of_getElem? (i := 18) rfl))) (Or.inl (hw _ (List.mem_of_getElem? (i := 20) rfl))) (by decide) (t := (.array .byte)) (t' := .int) (by decide) (by decide)))), Fw12, (F_end_r0.other W12 (Or.inr (slot_ne (Or.inr (hw _ (List.mem_of_getElem? (i := 22) rfl))) (Or.inl (hw _ (List.mem_of_getElem? (i := 20) rfl))) (by decide) (t := .int) (t' := .int) (by decide) (by decide))))⟩

theorem ef_7i4 (m : MethodId) (x0 : Addr) (x1 : Int32) (x2 : Addr) : entryFrame m #[(.ref x0), (.int x1), (.ref x2)] 3 = mkF m 0 #[.val (.ref x0), .val (.int x1), .val (.ref x2)] [] := by first | (simp [entryFrame, mkF, argsToLocals, Value.category]; done) | rfl
def Q7i4 (Z : State) (r0 : Addr) (p1 : Int32) (r2 : Addr) (ab : Addr) (kc : ClassId) (dd0 : Int32) (dd1 : Int32) (dd2 : Int32) (dd3 : Int32) (dd4 : Int32) (dd5 : Int32) (dd6 : Int32) (dd7 : Int32) (en : Int32) (w : Int32) (h0 : Heap) (n0 : Nat) (v : Option Value) (h : Heap) (L : List Loc) : Prop := v = some (.int w) ∧ Fr n0 L ∧ Keep h0 h [r0] ∧ Fld Z h r0 "com/example/fair_witness/fairwitness/attestation/DerReader" "bytes" "[B" (.ref ab) ∧ Fld Z h r0 "com/example/fair_witness/fairwitness/attestation/DerReader" "position" "I" (.int (5 : Int32)) ∧ Fld Z h r0 "com/example/fair_witness/fairwitness/attestation/DerReader" "end" "I" (.int en)
set_option maxRecDepth 65536 in
set_option maxHeartbeats 40000000 in
theorem rm7i4 (l : Launch) (Z : State) (a0 : Array Value) (hw : ∀ d ∈ tables_1, d.before a0 Z = true) (ws : List Jvm.Cond) (r0 : Addr) (p1 : Int32) (r2 : Addr) (ab : Addr) (kc : ClassId) (dd0 : Int32) (dd1 : Int32) (dd2 : Int32) (dd3 : Int32) (dd4 : Int32) (dd5 : Int32) (dd6 : Int32) (dd7 : Int32) (en : Int32) (w : Int32) (h0 : Heap) (n0 : Nat) (Z0 : n0 ≤ h0.size) (F_bytes_r0 : Fld Z h0 r0 "com/example/fair_witness/fairwitness/attestation/DerReader" "bytes" "[B" (.ref ab)) (F_position_r0 : Fld Z h0 r0 "com/example/fair_witness/fairwitness/attestation/DerReader" "position" "I" (.int (4 : Int32))) (F_end_r0 : Fld Z h0 r0 "com/example/fair_witness/fairwitness/attestation/DerReader" "end" "I" (.int en)) (E_r0 : Exa Z h0 r0 "com/example/fair_witness/fairwitness/attestation/DerReader") (g_r0 : n0 ≤ r0) (V_ab : Arv Z h0 ab kc .byte (8 : Int32) [(.int dd0), (.int dd1), (.int dd2), (.int dd3), (.int dd4), (.int dd5), (.int dd6), (.int dd7)] (.int (0 : Int32))) (E_ab : Exa Z h0 ab "[B") (hlt : (4 : Int32) < en) (hv : (dd4 &&& (255 : Int32)) = w) :
    MetFree l (⟨"com/example/fair_witness/fairwitness/attestation/DerReader", "nextByte", "(ILjava/lang/String;)I"⟩ : MethodName) (head1 (Jvm.Cond.code (⟨"com/example/fair_witness/fairwitness/attestation/DerReader", "nextByte", "(ILjava/lang/String;)I"⟩ : MethodName) prog_10_method_24_code 3 (some .int) :: ws) ({ frames := 0, cells := 0, slots := 0, locals := 0 } : Room)) (fun a U => a = #[(.ref r0), (.int p1), (.ref r2)] ∧ Z.Warmed39 U.vm ∧ U.heap = h0) (fun _ _ _ _ _ => True) (fun _ U o U' => ∃ v L, o = .returned v ∧ Q7i4 Z r0 p1 r2 ab kc dd0 dd1 dd2 dd3 dd4 dd5 dd6 dd7 en w h0 n0 v U'.heap L ∧ FrameEnd U o U' L ({ frames := 0, cells := 0, slots := 0, locals := 0 } : Room).cells ({ frames := 0, cells := 0, slots := 0, locals := 0 } : Room).slots) := by
  refine MetFree.of_bodySF (plainFor_of_name pn1) hisR ?_
  intro p e s m args below meth c s₁ Bd hml0 hP hK
  obtain ⟨rfl, hZ, hh⟩ := hP
  have hx := Bd.exec
  have hby := Bd.bytes
  have hml : c.maxLocals = 3 := hml0
  have hown : s.vm.findClass "com/example/fair_witness/fairwitness/attestation/DerReader" = some m.cls := findClass_of_methodNamed Bd.named
  have hnm := (name_of_methodNamed Bd.named Bd.method).1
  have X0 : Stand p l e ({ frames := 0, cells := 0, slots := 0, locals := 0 } : Room) s m #[(.ref r0), (.int p1), (.ref r2)] below meth c s₁ [] 0 0 := Stand.of_body Bd
  have e0 : s₁.heap = h0 := by rw [← hh, Bd.state]; rfl
  have N0 := Fr.nil n0
  have pre0 : ∀ t, Steps p.tables e below (s₁.setTop (mkF m 0 #[rv r0, iv p1, rv r2] [])) t → Steps p.tables e below (s₁.setTop (entryFrame m #[(.ref r0), (.int p1), (.ref r2)] 3)) t := fun t k => castTop (ef_7i4 m r0 p1 r2) k
  have pre1 : ∀ t, Steps p.tables e below (s₁.setTop (mkF m 1 #[rv r0, iv p1, rv r2] [(.ref r0)])) t → Steps p.tables e below (s₁.setTop (entryFrame m #[(.ref r0), (.int p1), (.ref r2)] 3)) t := by
    intro t kt
    refine pre0 _ ?_
    show Steps p.tables e below (s₁.setTop (mkF m 0 #[rv r0, iv p1, rv r2] [])) _
    refine XS.aloadN X0.here hx rfl (hb hby d7_0) rfl rfl ?_
    exact kt
  obtain ⟨T2, X2, e2, st2⟩ := getF X0 hx hZ hown (host := "") (Or.inl (hw _ (List.mem_of_getElem? (i := 19) rfl))) Via.refl e0 F_position_r0 (g := (mkF m 1 #[rv r0, iv p1, rv r2] [(.ref r0)])) rfl rfl (hb hby d7_1)
  have pre3 : ∀ t, Steps p.tables e below (T2.setTop (mkF m 5 #[rv r0, iv p1, rv r2] [(.ref r0), (.int (4 : Int32))])) t → Steps p.tables e below (s₁.setTop (entryFrame m #[(.ref r0), (.int p1), (.ref r2)] 3)) t := by
    intro t kt
    refine pre1 _ ?_
    show Steps p.tables e below (s₁.setTop (mkF m 1 #[rv r0, iv p1, rv r2] [(.ref r0)])) _
    refine st2 _ ?_
    show Steps p.tables e below (T2.setTop (mkF m 4 #[rv r0, iv p1, rv r2] [(.int (4 : Int32))])) _
    refine XS.aloadN X2.here hx rfl (hb hby d7_4) rfl rfl ?_
    exact kt
  obtain ⟨T4, X4, e4, st4⟩ := getF X2 hx hZ hown (host := "") (Or.inl (hw _ (List.mem_of_getElem? (i := 21) rfl))) Via.refl e2 F_end_r0 (g := (mkF m 5 #[rv r0, iv p1, rv r2] [(.ref r0), (.int (4 : Int32))])) rfl rfl (hb hby d7_5)
  have pre6 : ∀ t, Steps p.tables e below (T4.setTop (mkF m 8 #[rv r0, iv p1, rv r2] [(.int en), (.int (4 : Int32))])) t → Steps p.tables e below (s₁.setTop (entryFrame m #[(.ref r0), (.int p1), (.ref r2)] 3)) t := by
    intro t kt
    refine pre3 _ ?_
    show Steps p.tables e below (T2.setTop (mkF m 5 #[rv r0, iv p1, rv r2] [(.ref r0), (.int (4 : Int32))])) _
    refine st4 _ ?_
    exact kt
  have hc8_5 : (4 : Int32) < en := hlt
  have pre7 : ∀ t, Steps p.tables e below (T4.setTop (mkF m 27 #[rv r0, iv p1, rv r2] [(.ref r0)])) t → Steps p.tables e below (s₁.setTop (entryFrame m #[(.ref r0), (.int p1), (.ref r2)] 3)) t := by
    intro t kt
    refine pre6 _ ?_
    show Steps p.tables e below (T4.setTop (mkF m 8 #[rv r0, iv p1, rv r2] [(.int en), (.int (4 : Int32))])) _
    refine XS.icmpYes X4.here hx rfl (pc0 := 8) (pc' := 26) rfl (hb hby d7_8) rfl (tlt hc8_5).1 (by decide) (by decide) ?_
    refine XS.aloadN X4.here hx rfl (hb hby d7_26) rfl rfl ?_
    exact kt
  obtain ⟨T8, X8, e8, st8⟩ := getF X4 hx hZ hown (host := "") (Or.inl (hw _ (List.mem_of_getElem? (i := 17) rfl))) Via.refl e4 F_bytes_r0 (g := (mkF m 27 #[rv r0, iv p1, rv r2] [(.ref r0)])) rfl rfl (hb hby d7_27)
  have pre9 : ∀ t, Steps p.tables e below (T8.setTop (mkF m 32 #[rv r0, iv p1, rv r2] [(.ref r0), (.ref r0), (.ref ab)])) t → Steps p.tables e below (s₁.setTop (entryFrame m #[(.ref r0), (.int p1), (.ref r2)] 3)) t := by
    intro t kt
    refine pre7 _ ?_
    show Steps p.tables e below (T4.setTop (mkF m 27 #[rv r0, iv p1, rv r2] [(.ref r0)])) _
    refine st8 _ ?_
    show Steps p.tables e below (T8.setTop (mkF m 30 #[rv r0, iv p1, rv r2] [(.ref ab)])) _
    refine XS.aloadN X8.here hx rfl (hb hby d7_30) rfl rfl ?_
    refine XS.dup X8.here hx rfl (hb hby d7_31) rfl rfl ?_
    exact kt
  obtain ⟨T10, X10, e10, st10⟩ := getF X8 hx hZ hown (host := "") (Or.inl (hw _ (List.mem_of_getElem? (i := 19) rfl))) Via.refl e8 F_position_r0 (g := (mkF m 32 #[rv r0, iv p1, rv r2] [(.ref r0), (.ref r0), (.ref ab)])) rfl rfl (hb hby d7_32)
  have pre11 : ∀ t, Steps p.tables e below (T10.setTop (mkF m 38 #[rv r0, iv p1, rv r2] [(.int (5 : Int32)), (.ref r0), (.int (4 : Int32)), (.ref ab)])) t → Steps p.tables e below (s₁.setTop (entryFrame m #[(.ref r0), (.int p1), (.ref r2)] 3)) t := by
    intro t kt
    refine pre9 _ ?_
    show Steps p.tables e below (T8.setTop (mkF m 32 #[rv r0, iv p1, rv r2] [(.ref r0), (.ref r0), (.ref ab)])) _
    refine st10 _ ?_
    show Steps p.tables e below (T10.setTop (mkF m 35 #[rv r0, iv p1, rv r2] [(.int (4 : Int32)), (.ref r0), (.ref ab)])) _
    refine XS.dupX1 X10.here hx rfl (hb hby d7_35) rfl rfl rfl ?_
    refine XS.iconst X10.here hx rfl (hb hby d7_36) ?_
    refine XS.iadd X10.here hx rfl (hb hby d7_37) rfl ?_
    show Steps p.tables e below (T10.setTop (mkF m 38 #[rv r0, iv p1, rv r2] [(.int ((4 : Int32) + (1 : Int32))), (.ref r0), (.int (4 : Int32)), (.ref ab)])) _
    rw [show ((4 : Int32) + (1 : Int32)) = (5 : Int32) from (by decide)]
    exact kt
  obtain ⟨T12, h12, X12, e12, W12, st12⟩ := putF X10 hx hZ hown (host := "") (Or.inl (hw _ (List.mem_of_getElem? (i := 19) rfl))) Via.refl e10 F_position_r0 E_r0 (Or.inl (hw _ (List.mem_of_getElem? (i := 20) rfl))) (hw _ (List.mem_of_getElem? (i := 6) rfl)) (ty := .int) (by decide) rfl rfl (g := (mkF m 38 #[rv r0, iv p1, rv r2] [(.int (5 : Int32)), (.ref r0), (.int (4 : Int32)), (.ref ab)])) rfl rfl (hb hby d7_38)
  have Fw12 : Fld Z h12 r0 "com/example/fair_witness/fairwitness/attestation/DerReader" "position" "I" (.int (5 : Int32)) := F_position_r0.same W12
  have K12 : Keep h0 h12 [r0] := (Keep.refl h0 [r0]).wr W12 (Or.inl (List.mem_of_getElem? (i := 0) rfl))
  have N12 := Fr.snoc X12 N0 g_r0
  obtain ⟨cl13, Ar13, q13, S13, M13, H13, G13⟩ := id (V_ab.other W12 (Exa.ne (E_ab.wr W12) (E_r0.wr W12) (by decide)))
  have hin13 : ¬ ((4 : Int32) < 0 ∨ cl13.slots.size ≤ ((4 : Int32)).toNatClampNeg) := inb_of S13 ⟨by decide, by decide⟩
  have hat13 : cl13.slots[((4 : Int32)).toNatClampNeg]? = some (.int dd4) := H13.at hin13 rfl
  have pre14 : ∀ t, Steps p.tables e below (T12.setTop (mkF m 46 #[rv r0, iv p1, rv r2] [(.int w)])) t → Steps p.tables e below (s₁.setTop (entryFrame m #[(.ref r0), (.int p1), (.ref r2)] 3)) t := by
    intro t kt
    refine pre11 _ ?_
    show Steps p.tables e below (T10.setTop (mkF m 38 #[rv r0, iv p1, rv r2] [(.int (5 : Int32)), (.ref r0), (.int (4 : Int32)), (.ref ab)])) _
    refine st12 _ ?_
    show Steps p.tables e below (T12.setTop (mkF m 41 #[rv r0, iv p1, rv r2] [(.int (4 : Int32)), (.ref ab)])) _
    refine X12.baloadBytes hx (j := (4 : Int32)) (v := (.int dd4)) (by rw [e12]; exact Ar13.1) (State.isArrayOf_alike hZ.alike Ar13.2.1) Ar13.2.2 hin13 hat13 (g := (mkF m 41 #[rv r0, iv p1, rv r2] [(.int (4 : Int32)), (.ref ab)])) rfl rfl (hb hby d7_41) _ ?_
    show Steps p.tables e below (T12.setTop (mkF m 42 #[rv r0, iv p1, rv r2] [(.int dd4)])) _
    refine XS.sipush X12.here hx rfl (hb hby d7_42) ?_
    refine XS.iand X12.here hx rfl (hb hby d7_45) rfl ?_
    show Steps p.tables e below (T12.setTop (mkF m 46 #[rv r0, iv p1, rv r2] [(.int (dd4 &&& (255 : Int32)))])) _
    rw [show (dd4 &&& (255 : Int32)) = w from hv]
    exact kt
  obtain ⟨fs, hr, hrun, hended, hW, hsame⟩ := X12.leave (v := some (.int w)) (fun h => by rw [Bd.returns] at h; cases h)
  refine ⟨_, _, pre14 _ ?_, hrun, hended, _, _, rfl, ?_, ⟨_, rfl⟩, hW, hsame.mono (by decide) (by decide)⟩
  · show Steps p.tables e below (T12.setTop (mkF m 46 #[rv r0, iv p1, rv r2] [(.int w)])) _
    exact retI X12 hx Bd.returns (hb hby d7_46) hr
  · show Q7i4 Z r0 p1 r2 ab kc dd0 dd1 dd2 dd3 dd4 dd5 dd6 dd7 en w h0 n0 _ T12.heap _
    rw [e12]
    exact ⟨rfl, N12, K12, (F_bytes_r0.other W12 (Or.inr (slot_ne (Or.inr (hw _ (List.mem_of_getElem? (i := 18) rfl))) (Or.inl (hw _ (List.mem_of_getElem? (i := 20) rfl))) (by decide) (t := (.array .byte)) (t' := .int) (by decide) (by decide)))), Fw12, (F_end_r0.other W12 (Or.inr (slot_ne (Or.inr (hw _ (List.mem_of_getElem? (i := 22) rfl))) (Or.inl (hw _ (List.mem_of_getElem? (i := 20) rfl))) (by decide) (t := .int) (t' := .int) (by decide) (by decide))))⟩

theorem ef_7i5 (m : MethodId) (x0 : Addr) (x1 : Int32) (x2 : Addr) : entryFrame m #[(.ref x0), (.int x1), (.ref x2)] 3 = mkF m 0 #[.val (.ref x0), .val (.int x1), .val (.ref x2)] [] := by first | (simp [entryFrame, mkF, argsToLocals, Value.category]; done) | rfl
def Q7i5 (Z : State) (r0 : Addr) (p1 : Int32) (r2 : Addr) (ab : Addr) (kc : ClassId) (dd0 : Int32) (dd1 : Int32) (dd2 : Int32) (dd3 : Int32) (dd4 : Int32) (dd5 : Int32) (dd6 : Int32) (dd7 : Int32) (en : Int32) (w : Int32) (h0 : Heap) (n0 : Nat) (v : Option Value) (h : Heap) (L : List Loc) : Prop := v = some (.int w) ∧ Fr n0 L ∧ Keep h0 h [r0] ∧ Fld Z h r0 "com/example/fair_witness/fairwitness/attestation/DerReader" "bytes" "[B" (.ref ab) ∧ Fld Z h r0 "com/example/fair_witness/fairwitness/attestation/DerReader" "position" "I" (.int (6 : Int32)) ∧ Fld Z h r0 "com/example/fair_witness/fairwitness/attestation/DerReader" "end" "I" (.int en)
set_option maxRecDepth 65536 in
set_option maxHeartbeats 40000000 in
theorem rm7i5 (l : Launch) (Z : State) (a0 : Array Value) (hw : ∀ d ∈ tables_1, d.before a0 Z = true) (ws : List Jvm.Cond) (r0 : Addr) (p1 : Int32) (r2 : Addr) (ab : Addr) (kc : ClassId) (dd0 : Int32) (dd1 : Int32) (dd2 : Int32) (dd3 : Int32) (dd4 : Int32) (dd5 : Int32) (dd6 : Int32) (dd7 : Int32) (en : Int32) (w : Int32) (h0 : Heap) (n0 : Nat) (Z0 : n0 ≤ h0.size) (F_bytes_r0 : Fld Z h0 r0 "com/example/fair_witness/fairwitness/attestation/DerReader" "bytes" "[B" (.ref ab)) (F_position_r0 : Fld Z h0 r0 "com/example/fair_witness/fairwitness/attestation/DerReader" "position" "I" (.int (5 : Int32))) (F_end_r0 : Fld Z h0 r0 "com/example/fair_witness/fairwitness/attestation/DerReader" "end" "I" (.int en)) (E_r0 : Exa Z h0 r0 "com/example/fair_witness/fairwitness/attestation/DerReader") (g_r0 : n0 ≤ r0) (V_ab : Arv Z h0 ab kc .byte (8 : Int32) [(.int dd0), (.int dd1), (.int dd2), (.int dd3), (.int dd4), (.int dd5), (.int dd6), (.int dd7)] (.int (0 : Int32))) (E_ab : Exa Z h0 ab "[B") (hlt : (5 : Int32) < en) (hv : (dd5 &&& (255 : Int32)) = w) :
    MetFree l (⟨"com/example/fair_witness/fairwitness/attestation/DerReader", "nextByte", "(ILjava/lang/String;)I"⟩ : MethodName) (head1 (Jvm.Cond.code (⟨"com/example/fair_witness/fairwitness/attestation/DerReader", "nextByte", "(ILjava/lang/String;)I"⟩ : MethodName) prog_10_method_24_code 3 (some .int) :: ws) ({ frames := 0, cells := 0, slots := 0, locals := 0 } : Room)) (fun a U => a = #[(.ref r0), (.int p1), (.ref r2)] ∧ Z.Warmed39 U.vm ∧ U.heap = h0) (fun _ _ _ _ _ => True) (fun _ U o U' => ∃ v L, o = .returned v ∧ Q7i5 Z r0 p1 r2 ab kc dd0 dd1 dd2 dd3 dd4 dd5 dd6 dd7 en w h0 n0 v U'.heap L ∧ FrameEnd U o U' L ({ frames := 0, cells := 0, slots := 0, locals := 0 } : Room).cells ({ frames := 0, cells := 0, slots := 0, locals := 0 } : Room).slots) := by
  refine MetFree.of_bodySF (plainFor_of_name pn1) hisR ?_
  intro p e s m args below meth c s₁ Bd hml0 hP hK
  obtain ⟨rfl, hZ, hh⟩ := hP
  have hx := Bd.exec
  have hby := Bd.bytes
  have hml : c.maxLocals = 3 := hml0
  have hown : s.vm.findClass "com/example/fair_witness/fairwitness/attestation/DerReader" = some m.cls := findClass_of_methodNamed Bd.named
  have hnm := (name_of_methodNamed Bd.named Bd.method).1
  have X0 : Stand p l e ({ frames := 0, cells := 0, slots := 0, locals := 0 } : Room) s m #[(.ref r0), (.int p1), (.ref r2)] below meth c s₁ [] 0 0 := Stand.of_body Bd
  have e0 : s₁.heap = h0 := by rw [← hh, Bd.state]; rfl
  have N0 := Fr.nil n0
  have pre0 : ∀ t, Steps p.tables e below (s₁.setTop (mkF m 0 #[rv r0, iv p1, rv r2] [])) t → Steps p.tables e below (s₁.setTop (entryFrame m #[(.ref r0), (.int p1), (.ref r2)] 3)) t := fun t k => castTop (ef_7i5 m r0 p1 r2) k
  have pre1 : ∀ t, Steps p.tables e below (s₁.setTop (mkF m 1 #[rv r0, iv p1, rv r2] [(.ref r0)])) t → Steps p.tables e below (s₁.setTop (entryFrame m #[(.ref r0), (.int p1), (.ref r2)] 3)) t := by
    intro t kt
    refine pre0 _ ?_
    show Steps p.tables e below (s₁.setTop (mkF m 0 #[rv r0, iv p1, rv r2] [])) _
    refine XS.aloadN X0.here hx rfl (hb hby d7_0) rfl rfl ?_
    exact kt
  obtain ⟨T2, X2, e2, st2⟩ := getF X0 hx hZ hown (host := "") (Or.inl (hw _ (List.mem_of_getElem? (i := 19) rfl))) Via.refl e0 F_position_r0 (g := (mkF m 1 #[rv r0, iv p1, rv r2] [(.ref r0)])) rfl rfl (hb hby d7_1)
  have pre3 : ∀ t, Steps p.tables e below (T2.setTop (mkF m 5 #[rv r0, iv p1, rv r2] [(.ref r0), (.int (5 : Int32))])) t → Steps p.tables e below (s₁.setTop (entryFrame m #[(.ref r0), (.int p1), (.ref r2)] 3)) t := by
    intro t kt
    refine pre1 _ ?_
    show Steps p.tables e below (s₁.setTop (mkF m 1 #[rv r0, iv p1, rv r2] [(.ref r0)])) _
    refine st2 _ ?_
    show Steps p.tables e below (T2.setTop (mkF m 4 #[rv r0, iv p1, rv r2] [(.int (5 : Int32))])) _
    refine XS.aloadN X2.here hx rfl (hb hby d7_4) rfl rfl ?_
    exact kt
  obtain ⟨T4, X4, e4, st4⟩ := getF X2 hx hZ hown (host := "") (Or.inl (hw _ (List.mem_of_getElem? (i := 21) rfl))) Via.refl e2 F_end_r0 (g := (mkF m 5 #[rv r0, iv p1, rv r2] [(.ref r0), (.int (5 : Int32))])) rfl rfl (hb hby d7_5)
  have pre6 : ∀ t, Steps p.tables e below (T4.setTop (mkF m 8 #[rv r0, iv p1, rv r2] [(.int en), (.int (5 : Int32))])) t → Steps p.tables e below (s₁.setTop (entryFrame m #[(.ref r0), (.int p1), (.ref r2)] 3)) t := by
    intro t kt
    refine pre3 _ ?_
    show Steps p.tables e below (T2.setTop (mkF m 5 #[rv r0, iv p1, rv r2] [(.ref r0), (.int (5 : Int32))])) _
    refine st4 _ ?_
    exact kt
  have hc8_5 : (5 : Int32) < en := hlt
  have pre7 : ∀ t, Steps p.tables e below (T4.setTop (mkF m 27 #[rv r0, iv p1, rv r2] [(.ref r0)])) t → Steps p.tables e below (s₁.setTop (entryFrame m #[(.ref r0), (.int p1), (.ref r2)] 3)) t := by
    intro t kt
    refine pre6 _ ?_
    show Steps p.tables e below (T4.setTop (mkF m 8 #[rv r0, iv p1, rv r2] [(.int en), (.int (5 : Int32))])) _
    refine XS.icmpYes X4.here hx rfl (pc0 := 8) (pc' := 26) rfl (hb hby d7_8) rfl (tlt hc8_5).1 (by decide) (by decide) ?_
    refine XS.aloadN X4.here hx rfl (hb hby d7_26) rfl rfl ?_
    exact kt
  obtain ⟨T8, X8, e8, st8⟩ := getF X4 hx hZ hown (host := "") (Or.inl (hw _ (List.mem_of_getElem? (i := 17) rfl))) Via.refl e4 F_bytes_r0 (g := (mkF m 27 #[rv r0, iv p1, rv r2] [(.ref r0)])) rfl rfl (hb hby d7_27)
  have pre9 : ∀ t, Steps p.tables e below (T8.setTop (mkF m 32 #[rv r0, iv p1, rv r2] [(.ref r0), (.ref r0), (.ref ab)])) t → Steps p.tables e below (s₁.setTop (entryFrame m #[(.ref r0), (.int p1), (.ref r2)] 3)) t := by
    intro t kt
    refine pre7 _ ?_
    show Steps p.tables e below (T4.setTop (mkF m 27 #[rv r0, iv p1, rv r2] [(.ref r0)])) _
    refine st8 _ ?_
    show Steps p.tables e below (T8.setTop (mkF m 30 #[rv r0, iv p1, rv r2] [(.ref ab)])) _
    refine XS.aloadN X8.here hx rfl (hb hby d7_30) rfl rfl ?_
    refine XS.dup X8.here hx rfl (hb hby d7_31) rfl rfl ?_
    exact kt
  obtain ⟨T10, X10, e10, st10⟩ := getF X8 hx hZ hown (host := "") (Or.inl (hw _ (List.mem_of_getElem? (i := 19) rfl))) Via.refl e8 F_position_r0 (g := (mkF m 32 #[rv r0, iv p1, rv r2] [(.ref r0), (.ref r0), (.ref ab)])) rfl rfl (hb hby d7_32)
  have pre11 : ∀ t, Steps p.tables e below (T10.setTop (mkF m 38 #[rv r0, iv p1, rv r2] [(.int (6 : Int32)), (.ref r0), (.int (5 : Int32)), (.ref ab)])) t → Steps p.tables e below (s₁.setTop (entryFrame m #[(.ref r0), (.int p1), (.ref r2)] 3)) t := by
    intro t kt
    refine pre9 _ ?_
    show Steps p.tables e below (T8.setTop (mkF m 32 #[rv r0, iv p1, rv r2] [(.ref r0), (.ref r0), (.ref ab)])) _
    refine st10 _ ?_
    show Steps p.tables e below (T10.setTop (mkF m 35 #[rv r0, iv p1, rv r2] [(.int (5 : Int32)), (.ref r0), (.ref ab)])) _
    refine XS.dupX1 X10.here hx rfl (hb hby d7_35) rfl rfl rfl ?_
    refine XS.iconst X10.here hx rfl (hb hby d7_36) ?_
    refine XS.iadd X10.here hx rfl (hb hby d7_37) rfl ?_
    show Steps p.tables e below (T10.setTop (mkF m 38 #[rv r0, iv p1, rv r2] [(.int ((5 : Int32) + (1 : Int32))), (.ref r0), (.int (5 : Int32)), (.ref ab)])) _
    rw [show ((5 : Int32) + (1 : Int32)) = (6 : Int32) from (by decide)]
    exact kt
  obtain ⟨T12, h12, X12, e12, W12, st12⟩ := putF X10 hx hZ hown (host := "") (Or.inl (hw _ (List.mem_of_getElem? (i := 19) rfl))) Via.refl e10 F_position_r0 E_r0 (Or.inl (hw _ (List.mem_of_getElem? (i := 20) rfl))) (hw _ (List.mem_of_getElem? (i := 6) rfl)) (ty := .int) (by decide) rfl rfl (g := (mkF m 38 #[rv r0, iv p1, rv r2] [(.int (6 : Int32)), (.ref r0), (.int (5 : Int32)), (.ref ab)])) rfl rfl (hb hby d7_38)
  have Fw12 : Fld Z h12 r0 "com/example/fair_witness/fairwitness/attestation/DerReader" "position" "I" (.int (6 : Int32)) := F_position_r0.same W12
  have K12 : Keep h0 h12 [r0] := (Keep.refl h0 [r0]).wr W12 (Or.inl (List.mem_of_getElem? (i := 0) rfl))
  have N12 := Fr.snoc X12 N0 g_r0
  obtain ⟨cl13, Ar13, q13, S13, M13, H13, G13⟩ := id (V_ab.other W12 (Exa.ne (E_ab.wr W12) (E_r0.wr W12) (by decide)))
  have hin13 : ¬ ((5 : Int32) < 0 ∨ cl13.slots.size ≤ ((5 : Int32)).toNatClampNeg) := inb_of S13 ⟨by decide, by decide⟩
  have hat13 : cl13.slots[((5 : Int32)).toNatClampNeg]? = some (.int dd5) := H13.at hin13 rfl
  have pre14 : ∀ t, Steps p.tables e below (T12.setTop (mkF m 46 #[rv r0, iv p1, rv r2] [(.int w)])) t → Steps p.tables e below (s₁.setTop (entryFrame m #[(.ref r0), (.int p1), (.ref r2)] 3)) t := by
    intro t kt
    refine pre11 _ ?_
    show Steps p.tables e below (T10.setTop (mkF m 38 #[rv r0, iv p1, rv r2] [(.int (6 : Int32)), (.ref r0), (.int (5 : Int32)), (.ref ab)])) _
    refine st12 _ ?_
    show Steps p.tables e below (T12.setTop (mkF m 41 #[rv r0, iv p1, rv r2] [(.int (5 : Int32)), (.ref ab)])) _
    refine X12.baloadBytes hx (j := (5 : Int32)) (v := (.int dd5)) (by rw [e12]; exact Ar13.1) (State.isArrayOf_alike hZ.alike Ar13.2.1) Ar13.2.2 hin13 hat13 (g := (mkF m 41 #[rv r0, iv p1, rv r2] [(.int (5 : Int32)), (.ref ab)])) rfl rfl (hb hby d7_41) _ ?_
    show Steps p.tables e below (T12.setTop (mkF m 42 #[rv r0, iv p1, rv r2] [(.int dd5)])) _
    refine XS.sipush X12.here hx rfl (hb hby d7_42) ?_
    refine XS.iand X12.here hx rfl (hb hby d7_45) rfl ?_
    show Steps p.tables e below (T12.setTop (mkF m 46 #[rv r0, iv p1, rv r2] [(.int (dd5 &&& (255 : Int32)))])) _
    rw [show (dd5 &&& (255 : Int32)) = w from hv]
    exact kt
  obtain ⟨fs, hr, hrun, hended, hW, hsame⟩ := X12.leave (v := some (.int w)) (fun h => by rw [Bd.returns] at h; cases h)
  refine ⟨_, _, pre14 _ ?_, hrun, hended, _, _, rfl, ?_, ⟨_, rfl⟩, hW, hsame.mono (by decide) (by decide)⟩
  · show Steps p.tables e below (T12.setTop (mkF m 46 #[rv r0, iv p1, rv r2] [(.int w)])) _
    exact retI X12 hx Bd.returns (hb hby d7_46) hr
  · show Q7i5 Z r0 p1 r2 ab kc dd0 dd1 dd2 dd3 dd4 dd5 dd6 dd7 en w h0 n0 _ T12.heap _
    rw [e12]
    exact ⟨rfl, N12, K12, (F_bytes_r0.other W12 (Or.inr (slot_ne (Or.inr (hw _ (List.mem_of_getElem? (i := 18) rfl))) (Or.inl (hw _ (List.mem_of_getElem? (i := 20) rfl))) (by decide) (t := (.array .byte)) (t' := .int) (by decide) (by decide)))), Fw12, (F_end_r0.other W12 (Or.inr (slot_ne (Or.inr (hw _ (List.mem_of_getElem? (i := 22) rfl))) (Or.inl (hw _ (List.mem_of_getElem? (i := 20) rfl))) (by decide) (t := .int) (t' := .int) (by decide) (by decide))))⟩

theorem ef_7i6 (m : MethodId) (x0 : Addr) (x1 : Int32) (x2 : Addr) : entryFrame m #[(.ref x0), (.int x1), (.ref x2)] 3 = mkF m 0 #[.val (.ref x0), .val (.int x1), .val (.ref x2)] [] := by first | (simp [entryFrame, mkF, argsToLocals, Value.category]; done) | rfl
def Q7i6 (Z : State) (r0 : Addr) (p1 : Int32) (r2 : Addr) (ab : Addr) (kc : ClassId) (dd0 : Int32) (dd1 : Int32) (dd2 : Int32) (dd3 : Int32) (dd4 : Int32) (dd5 : Int32) (dd6 : Int32) (dd7 : Int32) (en : Int32) (w : Int32) (h0 : Heap) (n0 : Nat) (v : Option Value) (h : Heap) (L : List Loc) : Prop := v = some (.int w) ∧ Fr n0 L ∧ Keep h0 h [r0] ∧ Fld Z h r0 "com/example/fair_witness/fairwitness/attestation/DerReader" "bytes" "[B" (.ref ab) ∧ Fld Z h r0 "com/example/fair_witness/fairwitness/attestation/DerReader" "position" "I" (.int (7 : Int32)) ∧ Fld Z h r0 "com/example/fair_witness/fairwitness/attestation/DerReader" "end" "I" (.int en)
set_option maxRecDepth 65536 in
set_option maxHeartbeats 40000000 in
theorem rm7i6 (l : Launch) (Z : State) (a0 : Array Value) (hw : ∀ d ∈ tables_1, d.before a0 Z = true) (ws : List Jvm.Cond) (r0 : Addr) (p1 : Int32) (r2 : Addr) (ab : Addr) (kc : ClassId) (dd0 : Int32) (dd1 : Int32) (dd2 : Int32) (dd3 : Int32) (dd4 : Int32) (dd5 : Int32) (dd6 : Int32) (dd7 : Int32) (en : Int32) (w : Int32) (h0 : Heap) (n0 : Nat) (Z0 : n0 ≤ h0.size) (F_bytes_r0 : Fld Z h0 r0 "com/example/fair_witness/fairwitness/attestation/DerReader" "bytes" "[B" (.ref ab)) (F_position_r0 : Fld Z h0 r0 "com/example/fair_witness/fairwitness/attestation/DerReader" "position" "I" (.int (6 : Int32))) (F_end_r0 : Fld Z h0 r0 "com/example/fair_witness/fairwitness/attestation/DerReader" "end" "I" (.int en)) (E_r0 : Exa Z h0 r0 "com/example/fair_witness/fairwitness/attestation/DerReader") (g_r0 : n0 ≤ r0) (V_ab : Arv Z h0 ab kc .byte (8 : Int32) [(.int dd0), (.int dd1), (.int dd2), (.int dd3), (.int dd4), (.int dd5), (.int dd6), (.int dd7)] (.int (0 : Int32))) (E_ab : Exa Z h0 ab "[B") (hlt : (6 : Int32) < en) (hv : (dd6 &&& (255 : Int32)) = w) :
    MetFree l (⟨"com/example/fair_witness/fairwitness/attestation/DerReader", "nextByte", "(ILjava/lang/String;)I"⟩ : MethodName) (head1 (Jvm.Cond.code (⟨"com/example/fair_witness/fairwitness/attestation/DerReader", "nextByte", "(ILjava/lang/String;)I"⟩ : MethodName) prog_10_method_24_code 3 (some .int) :: ws) ({ frames := 0, cells := 0, slots := 0, locals := 0 } : Room)) (fun a U => a = #[(.ref r0), (.int p1), (.ref r2)] ∧ Z.Warmed39 U.vm ∧ U.heap = h0) (fun _ _ _ _ _ => True) (fun _ U o U' => ∃ v L, o = .returned v ∧ Q7i6 Z r0 p1 r2 ab kc dd0 dd1 dd2 dd3 dd4 dd5 dd6 dd7 en w h0 n0 v U'.heap L ∧ FrameEnd U o U' L ({ frames := 0, cells := 0, slots := 0, locals := 0 } : Room).cells ({ frames := 0, cells := 0, slots := 0, locals := 0 } : Room).slots) := by
  refine MetFree.of_bodySF (plainFor_of_name pn1) hisR ?_
  intro p e s m args below meth c s₁ Bd hml0 hP hK
  obtain ⟨rfl, hZ, hh⟩ := hP
  have hx := Bd.exec
  have hby := Bd.bytes
  have hml : c.maxLocals = 3 := hml0
  have hown : s.vm.findClass "com/example/fair_witness/fairwitness/attestation/DerReader" = some m.cls := findClass_of_methodNamed Bd.named
  have hnm := (name_of_methodNamed Bd.named Bd.method).1
  have X0 : Stand p l e ({ frames := 0, cells := 0, slots := 0, locals := 0 } : Room) s m #[(.ref r0), (.int p1), (.ref r2)] below meth c s₁ [] 0 0 := Stand.of_body Bd
  have e0 : s₁.heap = h0 := by rw [← hh, Bd.state]; rfl
  have N0 := Fr.nil n0
  have pre0 : ∀ t, Steps p.tables e below (s₁.setTop (mkF m 0 #[rv r0, iv p1, rv r2] [])) t → Steps p.tables e below (s₁.setTop (entryFrame m #[(.ref r0), (.int p1), (.ref r2)] 3)) t := fun t k => castTop (ef_7i6 m r0 p1 r2) k
  have pre1 : ∀ t, Steps p.tables e below (s₁.setTop (mkF m 1 #[rv r0, iv p1, rv r2] [(.ref r0)])) t → Steps p.tables e below (s₁.setTop (entryFrame m #[(.ref r0), (.int p1), (.ref r2)] 3)) t := by
    intro t kt
    refine pre0 _ ?_
    show Steps p.tables e below (s₁.setTop (mkF m 0 #[rv r0, iv p1, rv r2] [])) _
    refine XS.aloadN X0.here hx rfl (hb hby d7_0) rfl rfl ?_
    exact kt
  obtain ⟨T2, X2, e2, st2⟩ := getF X0 hx hZ hown (host := "") (Or.inl (hw _ (List.mem_of_getElem? (i := 19) rfl))) Via.refl e0 F_position_r0 (g := (mkF m 1 #[rv r0, iv p1, rv r2] [(.ref r0)])) rfl rfl (hb hby d7_1)
  have pre3 : ∀ t, Steps p.tables e below (T2.setTop (mkF m 5 #[rv r0, iv p1, rv r2] [(.ref r0), (.int (6 : Int32))])) t → Steps p.tables e below (s₁.setTop (entryFrame m #[(.ref r0), (.int p1), (.ref r2)] 3)) t := by
    intro t kt
    refine pre1 _ ?_
    show Steps p.tables e below (s₁.setTop (mkF m 1 #[rv r0, iv p1, rv r2] [(.ref r0)])) _
    refine st2 _ ?_
    show Steps p.tables e below (T2.setTop (mkF m 4 #[rv r0, iv p1, rv r2] [(.int (6 : Int32))])) _
    refine XS.aloadN X2.here hx rfl (hb hby d7_4) rfl rfl ?_
    exact kt
  obtain ⟨T4, X4, e4, st4⟩ := getF X2 hx hZ hown (host := "") (Or.inl (hw _ (List.mem_of_getElem? (i := 21) rfl))) Via.refl e2 F_end_r0 (g := (mkF m 5 #[rv r0, iv p1, rv r2] [(.ref r0), (.int (6 : Int32))])) rfl rfl (hb hby d7_5)
  have pre6 : ∀ t, Steps p.tables e below (T4.setTop (mkF m 8 #[rv r0, iv p1, rv r2] [(.int en), (.int (6 : Int32))])) t → Steps p.tables e below (s₁.setTop (entryFrame m #[(.ref r0), (.int p1), (.ref r2)] 3)) t := by
    intro t kt
    refine pre3 _ ?_
    show Steps p.tables e below (T2.setTop (mkF m 5 #[rv r0, iv p1, rv r2] [(.ref r0), (.int (6 : Int32))])) _
    refine st4 _ ?_
    exact kt
  have hc8_5 : (6 : Int32) < en := hlt
  have pre7 : ∀ t, Steps p.tables e below (T4.setTop (mkF m 27 #[rv r0, iv p1, rv r2] [(.ref r0)])) t → Steps p.tables e below (s₁.setTop (entryFrame m #[(.ref r0), (.int p1), (.ref r2)] 3)) t := by
    intro t kt
    refine pre6 _ ?_
    show Steps p.tables e below (T4.setTop (mkF m 8 #[rv r0, iv p1, rv r2] [(.int en), (.int (6 : Int32))])) _
    refine XS.icmpYes X4.here hx rfl (pc0 := 8) (pc' := 26) rfl (hb hby d7_8) rfl (tlt hc8_5).1 (by decide) (by decide) ?_
    refine XS.aloadN X4.here hx rfl (hb hby d7_26) rfl rfl ?_
    exact kt
  obtain ⟨T8, X8, e8, st8⟩ := getF X4 hx hZ hown (host := "") (Or.inl (hw _ (List.mem_of_getElem? (i := 17) rfl))) Via.refl e4 F_bytes_r0 (g := (mkF m 27 #[rv r0, iv p1, rv r2] [(.ref r0)])) rfl rfl (hb hby d7_27)
  have pre9 : ∀ t, Steps p.tables e below (T8.setTop (mkF m 32 #[rv r0, iv p1, rv r2] [(.ref r0), (.ref r0), (.ref ab)])) t → Steps p.tables e below (s₁.setTop (entryFrame m #[(.ref r0), (.int p1), (.ref r2)] 3)) t := by
    intro t kt
    refine pre7 _ ?_
    show Steps p.tables e below (T4.setTop (mkF m 27 #[rv r0, iv p1, rv r2] [(.ref r0)])) _
    refine st8 _ ?_
    show Steps p.tables e below (T8.setTop (mkF m 30 #[rv r0, iv p1, rv r2] [(.ref ab)])) _
    refine XS.aloadN X8.here hx rfl (hb hby d7_30) rfl rfl ?_
    refine XS.dup X8.here hx rfl (hb hby d7_31) rfl rfl ?_
    exact kt
  obtain ⟨T10, X10, e10, st10⟩ := getF X8 hx hZ hown (host := "") (Or.inl (hw _ (List.mem_of_getElem? (i := 19) rfl))) Via.refl e8 F_position_r0 (g := (mkF m 32 #[rv r0, iv p1, rv r2] [(.ref r0), (.ref r0), (.ref ab)])) rfl rfl (hb hby d7_32)
  have pre11 : ∀ t, Steps p.tables e below (T10.setTop (mkF m 38 #[rv r0, iv p1, rv r2] [(.int (7 : Int32)), (.ref r0), (.int (6 : Int32)), (.ref ab)])) t → Steps p.tables e below (s₁.setTop (entryFrame m #[(.ref r0), (.int p1), (.ref r2)] 3)) t := by
    intro t kt
    refine pre9 _ ?_
    show Steps p.tables e below (T8.setTop (mkF m 32 #[rv r0, iv p1, rv r2] [(.ref r0), (.ref r0), (.ref ab)])) _
    refine st10 _ ?_
    show Steps p.tables e below (T10.setTop (mkF m 35 #[rv r0, iv p1, rv r2] [(.int (6 : Int32)), (.ref r0), (.ref ab)])) _
    refine XS.dupX1 X10.here hx rfl (hb hby d7_35) rfl rfl rfl ?_
    refine XS.iconst X10.here hx rfl (hb hby d7_36) ?_
    refine XS.iadd X10.here hx rfl (hb hby d7_37) rfl ?_
    show Steps p.tables e below (T10.setTop (mkF m 38 #[rv r0, iv p1, rv r2] [(.int ((6 : Int32) + (1 : Int32))), (.ref r0), (.int (6 : Int32)), (.ref ab)])) _
    rw [show ((6 : Int32) + (1 : Int32)) = (7 : Int32) from (by decide)]
    exact kt
  obtain ⟨T12, h12, X12, e12, W12, st12⟩ := putF X10 hx hZ hown (host := "") (Or.inl (hw _ (List.mem_of_getElem? (i := 19) rfl))) Via.refl e10 F_position_r0 E_r0 (Or.inl (hw _ (List.mem_of_getElem? (i := 20) rfl))) (hw _ (List.mem_of_getElem? (i := 6) rfl)) (ty := .int) (by decide) rfl rfl (g := (mkF m 38 #[rv r0, iv p1, rv r2] [(.int (7 : Int32)), (.ref r0), (.int (6 : Int32)), (.ref ab)])) rfl rfl (hb hby d7_38)
  have Fw12 : Fld Z h12 r0 "com/example/fair_witness/fairwitness/attestation/DerReader" "position" "I" (.int (7 : Int32)) := F_position_r0.same W12
  have K12 : Keep h0 h12 [r0] := (Keep.refl h0 [r0]).wr W12 (Or.inl (List.mem_of_getElem? (i := 0) rfl))
  have N12 := Fr.snoc X12 N0 g_r0
  obtain ⟨cl13, Ar13, q13, S13, M13, H13, G13⟩ := id (V_ab.other W12 (Exa.ne (E_ab.wr W12) (E_r0.wr W12) (by decide)))
  have hin13 : ¬ ((6 : Int32) < 0 ∨ cl13.slots.size ≤ ((6 : Int32)).toNatClampNeg) := inb_of S13 ⟨by decide, by decide⟩
  have hat13 : cl13.slots[((6 : Int32)).toNatClampNeg]? = some (.int dd6) := H13.at hin13 rfl
  have pre14 : ∀ t, Steps p.tables e below (T12.setTop (mkF m 46 #[rv r0, iv p1, rv r2] [(.int w)])) t → Steps p.tables e below (s₁.setTop (entryFrame m #[(.ref r0), (.int p1), (.ref r2)] 3)) t := by
    intro t kt
    refine pre11 _ ?_
    show Steps p.tables e below (T10.setTop (mkF m 38 #[rv r0, iv p1, rv r2] [(.int (7 : Int32)), (.ref r0), (.int (6 : Int32)), (.ref ab)])) _
    refine st12 _ ?_
    show Steps p.tables e below (T12.setTop (mkF m 41 #[rv r0, iv p1, rv r2] [(.int (6 : Int32)), (.ref ab)])) _
    refine X12.baloadBytes hx (j := (6 : Int32)) (v := (.int dd6)) (by rw [e12]; exact Ar13.1) (State.isArrayOf_alike hZ.alike Ar13.2.1) Ar13.2.2 hin13 hat13 (g := (mkF m 41 #[rv r0, iv p1, rv r2] [(.int (6 : Int32)), (.ref ab)])) rfl rfl (hb hby d7_41) _ ?_
    show Steps p.tables e below (T12.setTop (mkF m 42 #[rv r0, iv p1, rv r2] [(.int dd6)])) _
    refine XS.sipush X12.here hx rfl (hb hby d7_42) ?_
    refine XS.iand X12.here hx rfl (hb hby d7_45) rfl ?_
    show Steps p.tables e below (T12.setTop (mkF m 46 #[rv r0, iv p1, rv r2] [(.int (dd6 &&& (255 : Int32)))])) _
    rw [show (dd6 &&& (255 : Int32)) = w from hv]
    exact kt
  obtain ⟨fs, hr, hrun, hended, hW, hsame⟩ := X12.leave (v := some (.int w)) (fun h => by rw [Bd.returns] at h; cases h)
  refine ⟨_, _, pre14 _ ?_, hrun, hended, _, _, rfl, ?_, ⟨_, rfl⟩, hW, hsame.mono (by decide) (by decide)⟩
  · show Steps p.tables e below (T12.setTop (mkF m 46 #[rv r0, iv p1, rv r2] [(.int w)])) _
    exact retI X12 hx Bd.returns (hb hby d7_46) hr
  · show Q7i6 Z r0 p1 r2 ab kc dd0 dd1 dd2 dd3 dd4 dd5 dd6 dd7 en w h0 n0 _ T12.heap _
    rw [e12]
    exact ⟨rfl, N12, K12, (F_bytes_r0.other W12 (Or.inr (slot_ne (Or.inr (hw _ (List.mem_of_getElem? (i := 18) rfl))) (Or.inl (hw _ (List.mem_of_getElem? (i := 20) rfl))) (by decide) (t := (.array .byte)) (t' := .int) (by decide) (by decide)))), Fw12, (F_end_r0.other W12 (Or.inr (slot_ne (Or.inr (hw _ (List.mem_of_getElem? (i := 22) rfl))) (Or.inl (hw _ (List.mem_of_getElem? (i := 20) rfl))) (by decide) (t := .int) (t' := .int) (by decide) (by decide))))⟩

theorem ef_7i7 (m : MethodId) (x0 : Addr) (x1 : Int32) (x2 : Addr) : entryFrame m #[(.ref x0), (.int x1), (.ref x2)] 3 = mkF m 0 #[.val (.ref x0), .val (.int x1), .val (.ref x2)] [] := by first | (simp [entryFrame, mkF, argsToLocals, Value.category]; done) | rfl
def Q7i7 (Z : State) (r0 : Addr) (p1 : Int32) (r2 : Addr) (ab : Addr) (kc : ClassId) (dd0 : Int32) (dd1 : Int32) (dd2 : Int32) (dd3 : Int32) (dd4 : Int32) (dd5 : Int32) (dd6 : Int32) (dd7 : Int32) (en : Int32) (w : Int32) (h0 : Heap) (n0 : Nat) (v : Option Value) (h : Heap) (L : List Loc) : Prop := v = some (.int w) ∧ Fr n0 L ∧ Keep h0 h [r0] ∧ Fld Z h r0 "com/example/fair_witness/fairwitness/attestation/DerReader" "bytes" "[B" (.ref ab) ∧ Fld Z h r0 "com/example/fair_witness/fairwitness/attestation/DerReader" "position" "I" (.int (8 : Int32)) ∧ Fld Z h r0 "com/example/fair_witness/fairwitness/attestation/DerReader" "end" "I" (.int en)
set_option maxRecDepth 65536 in
set_option maxHeartbeats 40000000 in
theorem rm7i7 (l : Launch) (Z : State) (a0 : Array Value) (hw : ∀ d ∈ tables_1, d.before a0 Z = true) (ws : List Jvm.Cond) (r0 : Addr) (p1 : Int32) (r2 : Addr) (ab : Addr) (kc : ClassId) (dd0 : Int32) (dd1 : Int32) (dd2 : Int32) (dd3 : Int32) (dd4 : Int32) (dd5 : Int32) (dd6 : Int32) (dd7 : Int32) (en : Int32) (w : Int32) (h0 : Heap) (n0 : Nat) (Z0 : n0 ≤ h0.size) (F_bytes_r0 : Fld Z h0 r0 "com/example/fair_witness/fairwitness/attestation/DerReader" "bytes" "[B" (.ref ab)) (F_position_r0 : Fld Z h0 r0 "com/example/fair_witness/fairwitness/attestation/DerReader" "position" "I" (.int (7 : Int32))) (F_end_r0 : Fld Z h0 r0 "com/example/fair_witness/fairwitness/attestation/DerReader" "end" "I" (.int en)) (E_r0 : Exa Z h0 r0 "com/example/fair_witness/fairwitness/attestation/DerReader") (g_r0 : n0 ≤ r0) (V_ab : Arv Z h0 ab kc .byte (8 : Int32) [(.int dd0), (.int dd1), (.int dd2), (.int dd3), (.int dd4), (.int dd5), (.int dd6), (.int dd7)] (.int (0 : Int32))) (E_ab : Exa Z h0 ab "[B") (hlt : (7 : Int32) < en) (hv : (dd7 &&& (255 : Int32)) = w) :
    MetFree l (⟨"com/example/fair_witness/fairwitness/attestation/DerReader", "nextByte", "(ILjava/lang/String;)I"⟩ : MethodName) (head1 (Jvm.Cond.code (⟨"com/example/fair_witness/fairwitness/attestation/DerReader", "nextByte", "(ILjava/lang/String;)I"⟩ : MethodName) prog_10_method_24_code 3 (some .int) :: ws) ({ frames := 0, cells := 0, slots := 0, locals := 0 } : Room)) (fun a U => a = #[(.ref r0), (.int p1), (.ref r2)] ∧ Z.Warmed39 U.vm ∧ U.heap = h0) (fun _ _ _ _ _ => True) (fun _ U o U' => ∃ v L, o = .returned v ∧ Q7i7 Z r0 p1 r2 ab kc dd0 dd1 dd2 dd3 dd4 dd5 dd6 dd7 en w h0 n0 v U'.heap L ∧ FrameEnd U o U' L ({ frames := 0, cells := 0, slots := 0, locals := 0 } : Room).cells ({ frames := 0, cells := 0, slots := 0, locals := 0 } : Room).slots) := by
  refine MetFree.of_bodySF (plainFor_of_name pn1) hisR ?_
  intro p e s m args below meth c s₁ Bd hml0 hP hK
  obtain ⟨rfl, hZ, hh⟩ := hP
  have hx := Bd.exec
  have hby := Bd.bytes
  have hml : c.maxLocals = 3 := hml0
  have hown : s.vm.findClass "com/example/fair_witness/fairwitness/attestation/DerReader" = some m.cls := findClass_of_methodNamed Bd.named
  have hnm := (name_of_methodNamed Bd.named Bd.method).1
  have X0 : Stand p l e ({ frames := 0, cells := 0, slots := 0, locals := 0 } : Room) s m #[(.ref r0), (.int p1), (.ref r2)] below meth c s₁ [] 0 0 := Stand.of_body Bd
  have e0 : s₁.heap = h0 := by rw [← hh, Bd.state]; rfl
  have N0 := Fr.nil n0
  have pre0 : ∀ t, Steps p.tables e below (s₁.setTop (mkF m 0 #[rv r0, iv p1, rv r2] [])) t → Steps p.tables e below (s₁.setTop (entryFrame m #[(.ref r0), (.int p1), (.ref r2)] 3)) t := fun t k => castTop (ef_7i7 m r0 p1 r2) k
  have pre1 : ∀ t, Steps p.tables e below (s₁.setTop (mkF m 1 #[rv r0, iv p1, rv r2] [(.ref r0)])) t → Steps p.tables e below (s₁.setTop (entryFrame m #[(.ref r0), (.int p1), (.ref r2)] 3)) t := by
    intro t kt
    refine pre0 _ ?_
    show Steps p.tables e below (s₁.setTop (mkF m 0 #[rv r0, iv p1, rv r2] [])) _
    refine XS.aloadN X0.here hx rfl (hb hby d7_0) rfl rfl ?_
    exact kt
  obtain ⟨T2, X2, e2, st2⟩ := getF X0 hx hZ hown (host := "") (Or.inl (hw _ (List.mem_of_getElem? (i := 19) rfl))) Via.refl e0 F_position_r0 (g := (mkF m 1 #[rv r0, iv p1, rv r2] [(.ref r0)])) rfl rfl (hb hby d7_1)
  have pre3 : ∀ t, Steps p.tables e below (T2.setTop (mkF m 5 #[rv r0, iv p1, rv r2] [(.ref r0), (.int (7 : Int32))])) t → Steps p.tables e below (s₁.setTop (entryFrame m #[(.ref r0), (.int p1), (.ref r2)] 3)) t := by
    intro t kt
    refine pre1 _ ?_
    show Steps p.tables e below (s₁.setTop (mkF m 1 #[rv r0, iv p1, rv r2] [(.ref r0)])) _
    refine st2 _ ?_
    show Steps p.tables e below (T2.setTop (mkF m 4 #[rv r0, iv p1, rv r2] [(.int (7 : Int32))])) _
    refine XS.aloadN X2.here hx rfl (hb hby d7_4) rfl rfl ?_
    exact kt
  obtain ⟨T4, X4, e4, st4⟩ := getF X2 hx hZ hown (host := "") (Or.inl (hw _ (List.mem_of_getElem? (i := 21) rfl))) Via.refl e2 F_end_r0 (g := (mkF m 5 #[rv r0, iv p1, rv r2] [(.ref r0), (.int (7 : Int32))])) rfl rfl (hb hby d7_5)
  have pre6 : ∀ t, Steps p.tables e below (T4.setTop (mkF m 8 #[rv r0, iv p1, rv r2] [(.int en), (.int (7 : Int32))])) t → Steps p.tables e below (s₁.setTop (entryFrame m #[(.ref r0), (.int p1), (.ref r2)] 3)) t := by
    intro t kt
    refine pre3 _ ?_
    show Steps p.tables e below (T2.setTop (mkF m 5 #[rv r0, iv p1, rv r2] [(.ref r0), (.int (7 : Int32))])) _
    refine st4 _ ?_
    exact kt
  have hc8_5 : (7 : Int32) < en := hlt
  have pre7 : ∀ t, Steps p.tables e below (T4.setTop (mkF m 27 #[rv r0, iv p1, rv r2] [(.ref r0)])) t → Steps p.tables e below (s₁.setTop (entryFrame m #[(.ref r0), (.int p1), (.ref r2)] 3)) t := by
    intro t kt
    refine pre6 _ ?_
    show Steps p.tables e below (T4.setTop (mkF m 8 #[rv r0, iv p1, rv r2] [(.int en), (.int (7 : Int32))])) _
    refine XS.icmpYes X4.here hx rfl (pc0 := 8) (pc' := 26) rfl (hb hby d7_8) rfl (tlt hc8_5).1 (by decide) (by decide) ?_
    refine XS.aloadN X4.here hx rfl (hb hby d7_26) rfl rfl ?_
    exact kt
  obtain ⟨T8, X8, e8, st8⟩ := getF X4 hx hZ hown (host := "") (Or.inl (hw _ (List.mem_of_getElem? (i := 17) rfl))) Via.refl e4 F_bytes_r0 (g := (mkF m 27 #[rv r0, iv p1, rv r2] [(.ref r0)])) rfl rfl (hb hby d7_27)
  have pre9 : ∀ t, Steps p.tables e below (T8.setTop (mkF m 32 #[rv r0, iv p1, rv r2] [(.ref r0), (.ref r0), (.ref ab)])) t → Steps p.tables e below (s₁.setTop (entryFrame m #[(.ref r0), (.int p1), (.ref r2)] 3)) t := by
    intro t kt
    refine pre7 _ ?_
    show Steps p.tables e below (T4.setTop (mkF m 27 #[rv r0, iv p1, rv r2] [(.ref r0)])) _
    refine st8 _ ?_
    show Steps p.tables e below (T8.setTop (mkF m 30 #[rv r0, iv p1, rv r2] [(.ref ab)])) _
    refine XS.aloadN X8.here hx rfl (hb hby d7_30) rfl rfl ?_
    refine XS.dup X8.here hx rfl (hb hby d7_31) rfl rfl ?_
    exact kt
  obtain ⟨T10, X10, e10, st10⟩ := getF X8 hx hZ hown (host := "") (Or.inl (hw _ (List.mem_of_getElem? (i := 19) rfl))) Via.refl e8 F_position_r0 (g := (mkF m 32 #[rv r0, iv p1, rv r2] [(.ref r0), (.ref r0), (.ref ab)])) rfl rfl (hb hby d7_32)
  have pre11 : ∀ t, Steps p.tables e below (T10.setTop (mkF m 38 #[rv r0, iv p1, rv r2] [(.int (8 : Int32)), (.ref r0), (.int (7 : Int32)), (.ref ab)])) t → Steps p.tables e below (s₁.setTop (entryFrame m #[(.ref r0), (.int p1), (.ref r2)] 3)) t := by
    intro t kt
    refine pre9 _ ?_
    show Steps p.tables e below (T8.setTop (mkF m 32 #[rv r0, iv p1, rv r2] [(.ref r0), (.ref r0), (.ref ab)])) _
    refine st10 _ ?_
    show Steps p.tables e below (T10.setTop (mkF m 35 #[rv r0, iv p1, rv r2] [(.int (7 : Int32)), (.ref r0), (.ref ab)])) _
    refine XS.dupX1 X10.here hx rfl (hb hby d7_35) rfl rfl rfl ?_
    refine XS.iconst X10.here hx rfl (hb hby d7_36) ?_
    refine XS.iadd X10.here hx rfl (hb hby d7_37) rfl ?_
    show Steps p.tables e below (T10.setTop (mkF m 38 #[rv r0, iv p1, rv r2] [(.int ((7 : Int32) + (1 : Int32))), (.ref r0), (.int (7 : Int32)), (.ref ab)])) _
    rw [show ((7 : Int32) + (1 : Int32)) = (8 : Int32) from (by decide)]
    exact kt
  obtain ⟨T12, h12, X12, e12, W12, st12⟩ := putF X10 hx hZ hown (host := "") (Or.inl (hw _ (List.mem_of_getElem? (i := 19) rfl))) Via.refl e10 F_position_r0 E_r0 (Or.inl (hw _ (List.mem_of_getElem? (i := 20) rfl))) (hw _ (List.mem_of_getElem? (i := 6) rfl)) (ty := .int) (by decide) rfl rfl (g := (mkF m 38 #[rv r0, iv p1, rv r2] [(.int (8 : Int32)), (.ref r0), (.int (7 : Int32)), (.ref ab)])) rfl rfl (hb hby d7_38)
  have Fw12 : Fld Z h12 r0 "com/example/fair_witness/fairwitness/attestation/DerReader" "position" "I" (.int (8 : Int32)) := F_position_r0.same W12
  have K12 : Keep h0 h12 [r0] := (Keep.refl h0 [r0]).wr W12 (Or.inl (List.mem_of_getElem? (i := 0) rfl))
  have N12 := Fr.snoc X12 N0 g_r0
  obtain ⟨cl13, Ar13, q13, S13, M13, H13, G13⟩ := id (V_ab.other W12 (Exa.ne (E_ab.wr W12) (E_r0.wr W12) (by decide)))
  have hin13 : ¬ ((7 : Int32) < 0 ∨ cl13.slots.size ≤ ((7 : Int32)).toNatClampNeg) := inb_of S13 ⟨by decide, by decide⟩
  have hat13 : cl13.slots[((7 : Int32)).toNatClampNeg]? = some (.int dd7) := H13.at hin13 rfl
  have pre14 : ∀ t, Steps p.tables e below (T12.setTop (mkF m 46 #[rv r0, iv p1, rv r2] [(.int w)])) t → Steps p.tables e below (s₁.setTop (entryFrame m #[(.ref r0), (.int p1), (.ref r2)] 3)) t := by
    intro t kt
    refine pre11 _ ?_
    show Steps p.tables e below (T10.setTop (mkF m 38 #[rv r0, iv p1, rv r2] [(.int (8 : Int32)), (.ref r0), (.int (7 : Int32)), (.ref ab)])) _
    refine st12 _ ?_
    show Steps p.tables e below (T12.setTop (mkF m 41 #[rv r0, iv p1, rv r2] [(.int (7 : Int32)), (.ref ab)])) _
    refine X12.baloadBytes hx (j := (7 : Int32)) (v := (.int dd7)) (by rw [e12]; exact Ar13.1) (State.isArrayOf_alike hZ.alike Ar13.2.1) Ar13.2.2 hin13 hat13 (g := (mkF m 41 #[rv r0, iv p1, rv r2] [(.int (7 : Int32)), (.ref ab)])) rfl rfl (hb hby d7_41) _ ?_
    show Steps p.tables e below (T12.setTop (mkF m 42 #[rv r0, iv p1, rv r2] [(.int dd7)])) _
    refine XS.sipush X12.here hx rfl (hb hby d7_42) ?_
    refine XS.iand X12.here hx rfl (hb hby d7_45) rfl ?_
    show Steps p.tables e below (T12.setTop (mkF m 46 #[rv r0, iv p1, rv r2] [(.int (dd7 &&& (255 : Int32)))])) _
    rw [show (dd7 &&& (255 : Int32)) = w from hv]
    exact kt
  obtain ⟨fs, hr, hrun, hended, hW, hsame⟩ := X12.leave (v := some (.int w)) (fun h => by rw [Bd.returns] at h; cases h)
  refine ⟨_, _, pre14 _ ?_, hrun, hended, _, _, rfl, ?_, ⟨_, rfl⟩, hW, hsame.mono (by decide) (by decide)⟩
  · show Steps p.tables e below (T12.setTop (mkF m 46 #[rv r0, iv p1, rv r2] [(.int w)])) _
    exact retI X12 hx Bd.returns (hb hby d7_46) hr
  · show Q7i7 Z r0 p1 r2 ab kc dd0 dd1 dd2 dd3 dd4 dd5 dd6 dd7 en w h0 n0 _ T12.heap _
    rw [e12]
    exact ⟨rfl, N12, K12, (F_bytes_r0.other W12 (Or.inr (slot_ne (Or.inr (hw _ (List.mem_of_getElem? (i := 18) rfl))) (Or.inl (hw _ (List.mem_of_getElem? (i := 20) rfl))) (by decide) (t := (.array .byte)) (t' := .int) (by decide) (by decide)))), Fw12, (F_end_r0.other W12 (Or.inr (slot_ne (Or.inr (hw _ (List.mem_of_getElem? (i := 22) rfl))) (Or.inl (hw _ (List.mem_of_getElem? (i := 20) rfl))) (by decide) (t := .int) (t' := .int) (by decide) (by decide))))⟩
theorem d8_0 : decode prog_10_method_23_code 0 = .ok (.aload_n 0, 1) := by decide +kernel
theorem d8_1 : decode prog_10_method_23_code 1 = .ok (.iload_n 1, 1) := by decide +kernel
theorem d8_2 : decode prog_10_method_23_code 2 = .ok (.aload_n 2, 1) := by decide +kernel
theorem pd3 : parseMethodDescriptor "(ILjava/lang/String;)I" = some ⟨[.int, (.object "java/lang/String")], some .int⟩ := by decide +kernel
theorem d8_3 : decode prog_10_method_23_code 3 = .ok (.invokevirtual 48, 3) := by decide +kernel
theorem d8_6 : decode prog_10_method_23_code 6 = .ok (.istore_n 3, 1) := by decide +kernel
theorem d8_7 : decode prog_10_method_23_code 7 = .ok (.iload_n 3, 1) := by decide +kernel
theorem d8_8 : decode prog_10_method_23_code 8 = .ok (.i2l, 1) := by decide +kernel
theorem d8_9 : decode prog_10_method_23_code 9 = .ok (.lstore 4, 2) := by decide +kernel
theorem d8_11 : decode prog_10_method_23_code 11 = .ok (.iload_n 3, 1) := by decide +kernel
theorem d8_12 : decode prog_10_method_23_code 12 = .ok (.sipush 128, 3) := by decide +kernel
theorem d8_15 : decode prog_10_method_23_code 15 = .ok (.if_icmp .ne 17, 3) := by decide +kernel
theorem d8_32 : decode prog_10_method_23_code 32 = .ok (.iload_n 3, 1) := by decide +kernel
theorem d8_33 : decode prog_10_method_23_code 33 = .ok (.sipush 128, 3) := by decide +kernel
theorem d8_36 : decode prog_10_method_23_code 36 = .ok (.if_icmp .le 91, 3) := by decide +kernel
theorem d8_127 : decode prog_10_method_23_code 127 = .ok (.lload 4, 2) := by decide +kernel
theorem d8_129 : decode prog_10_method_23_code 129 = .ok (.aload_n 0, 1) := by decide +kernel
theorem d8_130 : decode prog_10_method_23_code 130 = .ok (.getfield 20, 3) := by decide +kernel
theorem d8_133 : decode prog_10_method_23_code 133 = .ok (.aload_n 0, 1) := by decide +kernel
theorem d8_134 : decode prog_10_method_23_code 134 = .ok (.getfield 16, 3) := by decide +kernel
theorem d8_137 : decode prog_10_method_23_code 137 = .ok (.isub, 1) := by decide +kernel
theorem d8_138 : decode prog_10_method_23_code 138 = .ok (.i2l, 1) := by decide +kernel
theorem d8_139 : decode prog_10_method_23_code 139 = .ok (.lcmp, 1) := by decide +kernel
theorem d8_140 : decode prog_10_method_23_code 140 = .ok (.ifCond .le 54, 3) := by decide +kernel
theorem d8_194 : decode prog_10_method_23_code 194 = .ok (.lload 4, 2) := by decide +kernel
theorem d8_196 : decode prog_10_method_23_code 196 = .ok (.l2i, 1) := by decide +kernel
theorem d8_197 : decode prog_10_method_23_code 197 = .ok (.ireturn, 1) := by decide +kernel
theorem ef_8i1 (m : MethodId) (x0 : Addr) (x1 : Int32) (x2 : Addr) : entryFrame m #[(.ref x0), (.int x1), (.ref x2)] 8 = mkF m 0 #[.val (.ref x0), .val (.int x1), .val (.ref x2), .unset, .unset, .unset, .unset, .unset] [] := by first | (simp [entryFrame, mkF, argsToLocals, Value.category]; done) | rfl
def Q8i1 (Z : State) (r0 : Addr) (p1 : Int32) (r2 : Addr) (ab : Addr) (kc : ClassId) (dd0 : Int32) (dd1 : Int32) (dd2 : Int32) (dd3 : Int32) (dd4 : Int32) (dd5 : Int32) (dd6 : Int32) (dd7 : Int32) (en : Int32) (w : Int32) (h0 : Heap) (n0 : Nat) (v : Option Value) (h : Heap) (L : List Loc) : Prop := v = some (.int w) ∧ Fr n0 L ∧ Keep h0 h [r0] ∧ Fld Z h r0 "com/example/fair_witness/fairwitness/attestation/DerReader" "bytes" "[B" (.ref ab) ∧ Fld Z h r0 "com/example/fair_witness/fairwitness/attestation/DerReader" "position" "I" (.int (2 : Int32)) ∧ Fld Z h r0 "com/example/fair_witness/fairwitness/attestation/DerReader" "end" "I" (.int en)
set_option maxRecDepth 65536 in
set_option maxHeartbeats 40000000 in
theorem rm8i1 (l : Launch) (Z : State) (a0 : Array Value) (hw : ∀ d ∈ tables_1, d.before a0 Z = true) (ws : List Jvm.Cond) (r0 : Addr) (p1 : Int32) (r2 : Addr) (ab : Addr) (kc : ClassId) (dd0 : Int32) (dd1 : Int32) (dd2 : Int32) (dd3 : Int32) (dd4 : Int32) (dd5 : Int32) (dd6 : Int32) (dd7 : Int32) (en : Int32) (w : Int32) (h0 : Heap) (n0 : Nat) (Z0 : n0 ≤ h0.size) (F_bytes_r0 : Fld Z h0 r0 "com/example/fair_witness/fairwitness/attestation/DerReader" "bytes" "[B" (.ref ab)) (F_position_r0 : Fld Z h0 r0 "com/example/fair_witness/fairwitness/attestation/DerReader" "position" "I" (.int (1 : Int32))) (F_end_r0 : Fld Z h0 r0 "com/example/fair_witness/fairwitness/attestation/DerReader" "end" "I" (.int en)) (E_r0 : Exa Z h0 r0 "com/example/fair_witness/fairwitness/attestation/DerReader") (g_r0 : n0 ≤ r0) (V_ab : Arv Z h0 ab kc .byte (8 : Int32) [(.int dd0), (.int dd1), (.int dd2), (.int dd3), (.int dd4), (.int dd5), (.int dd6), (.int dd7)] (.int (0 : Int32))) (E_ab : Exa Z h0 ab "[B") (hlt : (1 : Int32) < en) (hv1 : (dd1 &&& (255 : Int32)) = w) (hne : ¬ (w = (128 : Int32))) (hle : ¬ ((128 : Int32) < w)) (hfit : ¬ ((0 : Int32) < (lcmpW (w.toInt64) ((en - (2 : Int32)).toInt64)))) :
    MetFree l (⟨"com/example/fair_witness/fairwitness/attestation/DerReader", "readLength", "(ILjava/lang/String;)I"⟩ : MethodName) (head1 (Jvm.Cond.code (⟨"com/example/fair_witness/fairwitness/attestation/DerReader", "readLength", "(ILjava/lang/String;)I"⟩ : MethodName) prog_10_method_23_code 8 (some .int) :: ws) ({ frames := 1, cells := 0, slots := 0, locals := 14 } : Room)) (fun a U => a = #[(.ref r0), (.int p1), (.ref r2)] ∧ Z.Warmed39 U.vm ∧ U.heap = h0) (fun _ _ _ _ _ => True) (fun _ U o U' => ∃ v L, o = .returned v ∧ Q8i1 Z r0 p1 r2 ab kc dd0 dd1 dd2 dd3 dd4 dd5 dd6 dd7 en w h0 n0 v U'.heap L ∧ FrameEnd U o U' L ({ frames := 1, cells := 0, slots := 0, locals := 14 } : Room).cells ({ frames := 1, cells := 0, slots := 0, locals := 14 } : Room).slots) := by
  refine MetFree.of_bodySF (plainFor_of_name pn1) hisR ?_
  intro p e s m args below meth c s₁ Bd hml0 hP hK
  obtain ⟨rfl, hZ, hh⟩ := hP
  have hx := Bd.exec
  have hby := Bd.bytes
  have hml : c.maxLocals = 8 := hml0
  have hown : s.vm.findClass "com/example/fair_witness/fairwitness/attestation/DerReader" = some m.cls := findClass_of_methodNamed Bd.named
  have hnm := (name_of_methodNamed Bd.named Bd.method).1
  have X0 : Stand p l e ({ frames := 1, cells := 0, slots := 0, locals := 14 } : Room) s m #[(.ref r0), (.int p1), (.ref r2)] below meth c s₁ [] 0 0 := Stand.of_body Bd
  have e0 : s₁.heap = h0 := by rw [← hh, Bd.state]; rfl
  have N0 := Fr.nil n0
  have pre0 : ∀ t, Steps p.tables e below (s₁.setTop (mkF m 0 #[rv r0, iv p1, rv r2, .unset, .unset, .unset, .unset, .unset] [])) t → Steps p.tables e below (s₁.setTop (entryFrame m #[(.ref r0), (.int p1), (.ref r2)] 8)) t := fun t k => castTop (ef_8i1 m r0 p1 r2) k
  have pre1 : ∀ t, Steps p.tables e below (s₁.setTop (mkF m 3 #[rv r0, iv p1, rv r2, .unset, .unset, .unset, .unset, .unset] [(.ref r2), (.int p1), (.ref r0)])) t → Steps p.tables e below (s₁.setTop (entryFrame m #[(.ref r0), (.int p1), (.ref r2)] 8)) t := by
    intro t kt
    refine pre0 _ ?_
    show Steps p.tables e below (s₁.setTop (mkF m 0 #[rv r0, iv p1, rv r2, .unset, .unset, .unset, .unset, .unset] [])) _
    refine XS.aloadN X0.here hx rfl (hb hby d8_0) rfl rfl ?_
    refine XS.iloadN X0.here hx rfl (hb hby d8_1) rfl ?_
    refine XS.aloadN X0.here hx rfl (hb hby d8_2) rfl rfl ?_
    exact kt
  obtain ⟨cq2, q2, q2'⟩ := E_r0.cell
  obtain ⟨_, _, ⟨T2, L2, k2, n2⟩, -, X2, ⟨Lc2, hQ2, l2, y2, z2⟩, st2⟩ := X0.privateBack hx (y := (⟨"com/example/fair_witness/fairwitness/attestation/DerReader", "nextByte", "(ILjava/lang/String;)I"⟩ : MethodName)) hown (mvT hZ (hw _ (List.mem_of_getElem? (i := 39) rfl))) (mvT hZ (hw _ (List.mem_of_getElem? (i := 40) rfl))) (own_selp (y := (⟨"com/example/fair_witness/fairwitness/attestation/DerReader", "nextByte", "(ILjava/lang/String;)I"⟩ : MethodName)) (mvT hZ (hw _ (List.mem_of_getElem? (i := 6) rfl))) (Cond.privateMethod_at (mvP hZ (hw _ (List.mem_of_getElem? (i := 41) rfl)) (args := #[]))) (mvT hZ (hw _ (List.mem_of_getElem? (i := 40) rfl))) (by decide)) (Cond.privateMethod_at (mvP hZ (hw _ (List.mem_of_getElem? (i := 41) rfl)) (args := #[]))) (mvT hZ (hw _ (List.mem_of_getElem? (i := 42) rfl))) (by decide) (backOf (W := 0) (rm7i1 l Z a0 hw [] r0 p1 r2 ab kc dd0 dd1 dd2 dd3 dd4 dd5 dd6 dd7 en w h0 n0 (Nat.le_trans Z0 (Keep.refl h0 [r0]).1) F_bytes_r0 F_position_r0 F_end_r0 E_r0 g_r0 V_ab E_ab hlt hv1) hZ (hw _ (List.mem_of_getElem? (i := 42) rfl)) (hw _ (List.mem_of_getElem? (i := 7) rfl)) (by decide) (by decide)) (g := (mkF m 3 #[rv r0, iv p1, rv r2, .unset, .unset, .unset, .unset, .unset] [(.ref r2), (.int p1), (.ref r0)])) rfl (by rw [hml]; rfl) (Steps.refl _) (a := r0) (by rw [e0]; exact q2) q2' (argsL := [(.int p1), (.ref r2)]) (rest := []) (lenOf pd3 rfl) rfl (by show 2 * 0 + _ ≤ _; exact Nat.le_of_eq rfl) (hb hby d8_3) (fun _ _ => ⟨rfl, e0, (by decide : 0 + 0 ≤ _), (by decide : 0 + 0 ≤ _)⟩)
  dsimp only [Pt.U, Pt.locs, Pt.cells, Pt.slots] at X2 l2 y2 z2 st2 hQ2
  subst l2 y2 z2
  obtain ⟨rfl, N2q, Kc2, Fb_2, Fp_2, Fe_2⟩ := hQ2
  have N2 := Fr.app N0 N2q
  have K2 : Keep h0 T2.heap [r0] := (Keep.refl h0 [r0]).trans Kc2 (allS (Or.inl (List.mem_of_getElem? (i := 0) rfl)) all0)
  have pre4 : ∀ t, Steps p.tables e below (T2.setTop (mkF m 15 #[rv r0, iv p1, rv r2, iv w, .val (.long (w.toInt64)), .second, .unset, .unset] [(.int (128 : Int32)), (.int w)])) t → Steps p.tables e below (s₁.setTop (entryFrame m #[(.ref r0), (.int p1), (.ref r2)] 8)) t := by
    intro t kt
    refine pre1 _ ?_
    show Steps p.tables e below (s₁.setTop (mkF m 3 #[rv r0, iv p1, rv r2, .unset, .unset, .unset, .unset, .unset] [(.ref r2), (.int p1), (.ref r0)])) _
    refine st2.trans ?_
    show Steps p.tables e below (T2.setTop (mkF m 6 #[rv r0, iv p1, rv r2, .unset, .unset, .unset, .unset, .unset] [(.int w)])) _
    refine XS.istoreN X2.here hx rfl (hb hby d8_6) rfl (l' := #[rv r0, iv p1, rv r2, iv w, .unset, .unset, .unset, .unset]) rfl ?_
    refine XS.iloadN X2.here hx rfl (hb hby d8_7) rfl ?_
    refine XS.i2l X2.here hx rfl (hb hby d8_8) rfl ?_
    refine XS.lstore X2.here hx rfl (hb hby d8_9) rfl (l' := #[rv r0, iv p1, rv r2, iv w, .val (.long (w.toInt64)), .second, .unset, .unset]) rfl ?_
    refine XS.iloadN X2.here hx rfl (hb hby d8_11) rfl ?_
    refine XS.sipush X2.here hx rfl (hb hby d8_12) ?_
    exact kt
  have hc15_3 : ¬ (w = (128 : Int32)) := hne
  have pre6 : ∀ t, Steps p.tables e below (T2.setTop (mkF m 36 #[rv r0, iv p1, rv r2, iv w, .val (.long (w.toInt64)), .second, .unset, .unset] [(.int (128 : Int32)), (.int w)])) t → Steps p.tables e below (s₁.setTop (entryFrame m #[(.ref r0), (.int p1), (.ref r2)] 8)) t := by
    intro t kt
    refine pre4 _ ?_
    show Steps p.tables e below (T2.setTop (mkF m 15 #[rv r0, iv p1, rv r2, iv w, .val (.long (w.toInt64)), .second, .unset, .unset] [(.int (128 : Int32)), (.int w)])) _
    refine XS.icmpYes X2.here hx rfl (pc0 := 15) (pc' := 32) rfl (hb hby d8_15) rfl (feq hc15_3).2 (by decide) (by decide) ?_
    refine XS.iloadN X2.here hx rfl (hb hby d8_32) rfl ?_
    refine XS.sipush X2.here hx rfl (hb hby d8_33) ?_
    exact kt
  have hc36_5 : ¬ ((128 : Int32) < w) := hle
  have pre7 : ∀ t, Steps p.tables e below (T2.setTop (mkF m 130 #[rv r0, iv p1, rv r2, iv w, .val (.long (w.toInt64)), .second, .unset, .unset] [(.ref r0), (.long (w.toInt64))])) t → Steps p.tables e below (s₁.setTop (entryFrame m #[(.ref r0), (.int p1), (.ref r2)] 8)) t := by
    intro t kt
    refine pre6 _ ?_
    show Steps p.tables e below (T2.setTop (mkF m 36 #[rv r0, iv p1, rv r2, iv w, .val (.long (w.toInt64)), .second, .unset, .unset] [(.int (128 : Int32)), (.int w)])) _
    refine XS.icmpYes X2.here hx rfl (pc0 := 36) (pc' := 127) rfl (hb hby d8_36) rfl (flt hc36_5).2.2.2 (by decide) (by decide) ?_
    refine XS.lload X2.here hx rfl (hb hby d8_127) rfl ?_
    refine XS.aloadN X2.here hx rfl (hb hby d8_129) rfl rfl ?_
    exact kt
  obtain ⟨T8, X8, e8, st8⟩ := getF X2 hx hZ hown (host := "") (Or.inl (hw _ (List.mem_of_getElem? (i := 21) rfl))) Via.refl rfl Fe_2 (g := (mkF m 130 #[rv r0, iv p1, rv r2, iv w, .val (.long (w.toInt64)), .second, .unset, .unset] [(.ref r0), (.long (w.toInt64))])) rfl rfl (hb hby d8_130)
  have pre9 : ∀ t, Steps p.tables e below (T8.setTop (mkF m 134 #[rv r0, iv p1, rv r2, iv w, .val (.long (w.toInt64)), .second, .unset, .unset] [(.ref r0), (.int en), (.long (w.toInt64))])) t → Steps p.tables e below (s₁.setTop (entryFrame m #[(.ref r0), (.int p1), (.ref r2)] 8)) t := by
    intro t kt
    refine pre7 _ ?_
    show Steps p.tables e below (T2.setTop (mkF m 130 #[rv r0, iv p1, rv r2, iv w, .val (.long (w.toInt64)), .second, .unset, .unset] [(.ref r0), (.long (w.toInt64))])) _
    refine st8 _ ?_
    show Steps p.tables e below (T8.setTop (mkF m 133 #[rv r0, iv p1, rv r2, iv w, .val (.long (w.toInt64)), .second, .unset, .unset] [(.int en), (.long (w.toInt64))])) _
    refine XS.aloadN X8.here hx rfl (hb hby d8_133) rfl rfl ?_
    exact kt
  obtain ⟨T10, X10, e10, st10⟩ := getF X8 hx hZ hown (host := "") (Or.inl (hw _ (List.mem_of_getElem? (i := 19) rfl))) Via.refl e8 Fp_2 (g := (mkF m 134 #[rv r0, iv p1, rv r2, iv w, .val (.long (w.toInt64)), .second, .unset, .unset] [(.ref r0), (.int en), (.long (w.toInt64))])) rfl rfl (hb hby d8_134)
  have pre12 : ∀ t, Steps p.tables e below (T10.setTop (mkF m 140 #[rv r0, iv p1, rv r2, iv w, .val (.long (w.toInt64)), .second, .unset, .unset] [(.int (lcmpW (w.toInt64) ((en - (2 : Int32)).toInt64)))])) t → Steps p.tables e below (s₁.setTop (entryFrame m #[(.ref r0), (.int p1), (.ref r2)] 8)) t := by
    intro t kt
    refine pre9 _ ?_
    show Steps p.tables e below (T8.setTop (mkF m 134 #[rv r0, iv p1, rv r2, iv w, .val (.long (w.toInt64)), .second, .unset, .unset] [(.ref r0), (.int en), (.long (w.toInt64))])) _
    refine st10 _ ?_
    show Steps p.tables e below (T10.setTop (mkF m 137 #[rv r0, iv p1, rv r2, iv w, .val (.long (w.toInt64)), .second, .unset, .unset] [(.int (2 : Int32)), (.int en), (.long (w.toInt64))])) _
    refine XS.isub X10.here hx rfl (hb hby d8_137) rfl ?_
    refine XS.i2l X10.here hx rfl (hb hby d8_138) rfl ?_
    refine XS.lcmp X10.here hx rfl (hb hby d8_139) rfl ?_
    exact kt
  have hc140_11 : ¬ ((0 : Int32) < (lcmpW (w.toInt64) ((en - (2 : Int32)).toInt64))) := hfit
  have pre13 : ∀ t, Steps p.tables e below (T10.setTop (mkF m 197 #[rv r0, iv p1, rv r2, iv w, .val (.long (w.toInt64)), .second, .unset, .unset] [(.int w)])) t → Steps p.tables e below (s₁.setTop (entryFrame m #[(.ref r0), (.int p1), (.ref r2)] 8)) t := by
    intro t kt
    refine pre12 _ ?_
    show Steps p.tables e below (T10.setTop (mkF m 140 #[rv r0, iv p1, rv r2, iv w, .val (.long (w.toInt64)), .second, .unset, .unset] [(.int (lcmpW (w.toInt64) ((en - (2 : Int32)).toInt64)))])) _
    refine XS.ifYes X10.here hx rfl (pc0 := 140) (pc' := 194) rfl (hb hby d8_140) rfl ((if0 _ _).trans (flt hc140_11).2.2.2) (by decide) (by decide) ?_
    refine XS.lload X10.here hx rfl (hb hby d8_194) rfl ?_
    refine XS.l2i X10.here hx rfl (hb hby d8_196) rfl ?_
    show Steps p.tables e below (T10.setTop (mkF m 197 #[rv r0, iv p1, rv r2, iv w, .val (.long (w.toInt64)), .second, .unset, .unset] [(.int ((w.toInt64).toInt32))])) _
    rw [show ((w.toInt64).toInt32) = w from (Int32.toInt32_toInt64 w)]
    exact kt
  obtain ⟨fs, hr, hrun, hended, hW, hsame⟩ := X10.leave (v := some (.int w)) (fun h => by rw [Bd.returns] at h; cases h)
  refine ⟨_, _, pre13 _ ?_, hrun, hended, _, _, rfl, ?_, ⟨_, rfl⟩, hW, hsame.mono (by decide) (by decide)⟩
  · show Steps p.tables e below (T10.setTop (mkF m 197 #[rv r0, iv p1, rv r2, iv w, .val (.long (w.toInt64)), .second, .unset, .unset] [(.int w)])) _
    exact retI X10 hx Bd.returns (hb hby d8_197) hr
  · show Q8i1 Z r0 p1 r2 ab kc dd0 dd1 dd2 dd3 dd4 dd5 dd6 dd7 en w h0 n0 _ T10.heap _
    rw [e10]
    exact ⟨rfl, N2, K2, Fb_2, Fp_2, Fe_2⟩

theorem ef_8i3 (m : MethodId) (x0 : Addr) (x1 : Int32) (x2 : Addr) : entryFrame m #[(.ref x0), (.int x1), (.ref x2)] 8 = mkF m 0 #[.val (.ref x0), .val (.int x1), .val (.ref x2), .unset, .unset, .unset, .unset, .unset] [] := by first | (simp [entryFrame, mkF, argsToLocals, Value.category]; done) | rfl
def Q8i3 (Z : State) (r0 : Addr) (p1 : Int32) (r2 : Addr) (ab : Addr) (kc : ClassId) (dd0 : Int32) (dd1 : Int32) (dd2 : Int32) (dd3 : Int32) (dd4 : Int32) (dd5 : Int32) (dd6 : Int32) (dd7 : Int32) (en : Int32) (w : Int32) (h0 : Heap) (n0 : Nat) (v : Option Value) (h : Heap) (L : List Loc) : Prop := v = some (.int w) ∧ Fr n0 L ∧ Keep h0 h [r0] ∧ Fld Z h r0 "com/example/fair_witness/fairwitness/attestation/DerReader" "bytes" "[B" (.ref ab) ∧ Fld Z h r0 "com/example/fair_witness/fairwitness/attestation/DerReader" "position" "I" (.int (4 : Int32)) ∧ Fld Z h r0 "com/example/fair_witness/fairwitness/attestation/DerReader" "end" "I" (.int en)
set_option maxRecDepth 65536 in
set_option maxHeartbeats 40000000 in
theorem rm8i3 (l : Launch) (Z : State) (a0 : Array Value) (hw : ∀ d ∈ tables_1, d.before a0 Z = true) (ws : List Jvm.Cond) (r0 : Addr) (p1 : Int32) (r2 : Addr) (ab : Addr) (kc : ClassId) (dd0 : Int32) (dd1 : Int32) (dd2 : Int32) (dd3 : Int32) (dd4 : Int32) (dd5 : Int32) (dd6 : Int32) (dd7 : Int32) (en : Int32) (w : Int32) (h0 : Heap) (n0 : Nat) (Z0 : n0 ≤ h0.size) (F_bytes_r0 : Fld Z h0 r0 "com/example/fair_witness/fairwitness/attestation/DerReader" "bytes" "[B" (.ref ab)) (F_position_r0 : Fld Z h0 r0 "com/example/fair_witness/fairwitness/attestation/DerReader" "position" "I" (.int (3 : Int32))) (F_end_r0 : Fld Z h0 r0 "com/example/fair_witness/fairwitness/attestation/DerReader" "end" "I" (.int en)) (E_r0 : Exa Z h0 r0 "com/example/fair_witness/fairwitness/attestation/DerReader") (g_r0 : n0 ≤ r0) (V_ab : Arv Z h0 ab kc .byte (8 : Int32) [(.int dd0), (.int dd1), (.int dd2), (.int dd3), (.int dd4), (.int dd5), (.int dd6), (.int dd7)] (.int (0 : Int32))) (E_ab : Exa Z h0 ab "[B") (hlt : (3 : Int32) < en) (hv3 : (dd3 &&& (255 : Int32)) = w) (hne : ¬ (w = (128 : Int32))) (hle : ¬ ((128 : Int32) < w)) (hfit : ¬ ((0 : Int32) < (lcmpW (w.toInt64) ((en - (4 : Int32)).toInt64)))) :
    MetFree l (⟨"com/example/fair_witness/fairwitness/attestation/DerReader", "readLength", "(ILjava/lang/String;)I"⟩ : MethodName) (head1 (Jvm.Cond.code (⟨"com/example/fair_witness/fairwitness/attestation/DerReader", "readLength", "(ILjava/lang/String;)I"⟩ : MethodName) prog_10_method_23_code 8 (some .int) :: ws) ({ frames := 1, cells := 0, slots := 0, locals := 14 } : Room)) (fun a U => a = #[(.ref r0), (.int p1), (.ref r2)] ∧ Z.Warmed39 U.vm ∧ U.heap = h0) (fun _ _ _ _ _ => True) (fun _ U o U' => ∃ v L, o = .returned v ∧ Q8i3 Z r0 p1 r2 ab kc dd0 dd1 dd2 dd3 dd4 dd5 dd6 dd7 en w h0 n0 v U'.heap L ∧ FrameEnd U o U' L ({ frames := 1, cells := 0, slots := 0, locals := 14 } : Room).cells ({ frames := 1, cells := 0, slots := 0, locals := 14 } : Room).slots) := by
  refine MetFree.of_bodySF (plainFor_of_name pn1) hisR ?_
  intro p e s m args below meth c s₁ Bd hml0 hP hK
  obtain ⟨rfl, hZ, hh⟩ := hP
  have hx := Bd.exec
  have hby := Bd.bytes
  have hml : c.maxLocals = 8 := hml0
  have hown : s.vm.findClass "com/example/fair_witness/fairwitness/attestation/DerReader" = some m.cls := findClass_of_methodNamed Bd.named
  have hnm := (name_of_methodNamed Bd.named Bd.method).1
  have X0 : Stand p l e ({ frames := 1, cells := 0, slots := 0, locals := 14 } : Room) s m #[(.ref r0), (.int p1), (.ref r2)] below meth c s₁ [] 0 0 := Stand.of_body Bd
  have e0 : s₁.heap = h0 := by rw [← hh, Bd.state]; rfl
  have N0 := Fr.nil n0
  have pre0 : ∀ t, Steps p.tables e below (s₁.setTop (mkF m 0 #[rv r0, iv p1, rv r2, .unset, .unset, .unset, .unset, .unset] [])) t → Steps p.tables e below (s₁.setTop (entryFrame m #[(.ref r0), (.int p1), (.ref r2)] 8)) t := fun t k => castTop (ef_8i3 m r0 p1 r2) k
  have pre1 : ∀ t, Steps p.tables e below (s₁.setTop (mkF m 3 #[rv r0, iv p1, rv r2, .unset, .unset, .unset, .unset, .unset] [(.ref r2), (.int p1), (.ref r0)])) t → Steps p.tables e below (s₁.setTop (entryFrame m #[(.ref r0), (.int p1), (.ref r2)] 8)) t := by
    intro t kt
    refine pre0 _ ?_
    show Steps p.tables e below (s₁.setTop (mkF m 0 #[rv r0, iv p1, rv r2, .unset, .unset, .unset, .unset, .unset] [])) _
    refine XS.aloadN X0.here hx rfl (hb hby d8_0) rfl rfl ?_
    refine XS.iloadN X0.here hx rfl (hb hby d8_1) rfl ?_
    refine XS.aloadN X0.here hx rfl (hb hby d8_2) rfl rfl ?_
    exact kt
  obtain ⟨cq2, q2, q2'⟩ := E_r0.cell
  obtain ⟨_, _, ⟨T2, L2, k2, n2⟩, -, X2, ⟨Lc2, hQ2, l2, y2, z2⟩, st2⟩ := X0.privateBack hx (y := (⟨"com/example/fair_witness/fairwitness/attestation/DerReader", "nextByte", "(ILjava/lang/String;)I"⟩ : MethodName)) hown (mvT hZ (hw _ (List.mem_of_getElem? (i := 39) rfl))) (mvT hZ (hw _ (List.mem_of_getElem? (i := 40) rfl))) (own_selp (y := (⟨"com/example/fair_witness/fairwitness/attestation/DerReader", "nextByte", "(ILjava/lang/String;)I"⟩ : MethodName)) (mvT hZ (hw _ (List.mem_of_getElem? (i := 6) rfl))) (Cond.privateMethod_at (mvP hZ (hw _ (List.mem_of_getElem? (i := 41) rfl)) (args := #[]))) (mvT hZ (hw _ (List.mem_of_getElem? (i := 40) rfl))) (by decide)) (Cond.privateMethod_at (mvP hZ (hw _ (List.mem_of_getElem? (i := 41) rfl)) (args := #[]))) (mvT hZ (hw _ (List.mem_of_getElem? (i := 42) rfl))) (by decide) (backOf (W := 0) (rm7i3 l Z a0 hw [] r0 p1 r2 ab kc dd0 dd1 dd2 dd3 dd4 dd5 dd6 dd7 en w h0 n0 (Nat.le_trans Z0 (Keep.refl h0 [r0]).1) F_bytes_r0 F_position_r0 F_end_r0 E_r0 g_r0 V_ab E_ab hlt hv3) hZ (hw _ (List.mem_of_getElem? (i := 42) rfl)) (hw _ (List.mem_of_getElem? (i := 7) rfl)) (by decide) (by decide)) (g := (mkF m 3 #[rv r0, iv p1, rv r2, .unset, .unset, .unset, .unset, .unset] [(.ref r2), (.int p1), (.ref r0)])) rfl (by rw [hml]; rfl) (Steps.refl _) (a := r0) (by rw [e0]; exact q2) q2' (argsL := [(.int p1), (.ref r2)]) (rest := []) (lenOf pd3 rfl) rfl (by show 2 * 0 + _ ≤ _; exact Nat.le_of_eq rfl) (hb hby d8_3) (fun _ _ => ⟨rfl, e0, (by decide : 0 + 0 ≤ _), (by decide : 0 + 0 ≤ _)⟩)
  dsimp only [Pt.U, Pt.locs, Pt.cells, Pt.slots] at X2 l2 y2 z2 st2 hQ2
  subst l2 y2 z2
  obtain ⟨rfl, N2q, Kc2, Fb_2, Fp_2, Fe_2⟩ := hQ2
  have N2 := Fr.app N0 N2q
  have K2 : Keep h0 T2.heap [r0] := (Keep.refl h0 [r0]).trans Kc2 (allS (Or.inl (List.mem_of_getElem? (i := 0) rfl)) all0)
  have pre4 : ∀ t, Steps p.tables e below (T2.setTop (mkF m 15 #[rv r0, iv p1, rv r2, iv w, .val (.long (w.toInt64)), .second, .unset, .unset] [(.int (128 : Int32)), (.int w)])) t → Steps p.tables e below (s₁.setTop (entryFrame m #[(.ref r0), (.int p1), (.ref r2)] 8)) t := by
    intro t kt
    refine pre1 _ ?_
    show Steps p.tables e below (s₁.setTop (mkF m 3 #[rv r0, iv p1, rv r2, .unset, .unset, .unset, .unset, .unset] [(.ref r2), (.int p1), (.ref r0)])) _
    refine st2.trans ?_
    show Steps p.tables e below (T2.setTop (mkF m 6 #[rv r0, iv p1, rv r2, .unset, .unset, .unset, .unset, .unset] [(.int w)])) _
    refine XS.istoreN X2.here hx rfl (hb hby d8_6) rfl (l' := #[rv r0, iv p1, rv r2, iv w, .unset, .unset, .unset, .unset]) rfl ?_
    refine XS.iloadN X2.here hx rfl (hb hby d8_7) rfl ?_
    refine XS.i2l X2.here hx rfl (hb hby d8_8) rfl ?_
    refine XS.lstore X2.here hx rfl (hb hby d8_9) rfl (l' := #[rv r0, iv p1, rv r2, iv w, .val (.long (w.toInt64)), .second, .unset, .unset]) rfl ?_
    refine XS.iloadN X2.here hx rfl (hb hby d8_11) rfl ?_
    refine XS.sipush X2.here hx rfl (hb hby d8_12) ?_
    exact kt
  have hc15_3 : ¬ (w = (128 : Int32)) := hne
  have pre6 : ∀ t, Steps p.tables e below (T2.setTop (mkF m 36 #[rv r0, iv p1, rv r2, iv w, .val (.long (w.toInt64)), .second, .unset, .unset] [(.int (128 : Int32)), (.int w)])) t → Steps p.tables e below (s₁.setTop (entryFrame m #[(.ref r0), (.int p1), (.ref r2)] 8)) t := by
    intro t kt
    refine pre4 _ ?_
    show Steps p.tables e below (T2.setTop (mkF m 15 #[rv r0, iv p1, rv r2, iv w, .val (.long (w.toInt64)), .second, .unset, .unset] [(.int (128 : Int32)), (.int w)])) _
    refine XS.icmpYes X2.here hx rfl (pc0 := 15) (pc' := 32) rfl (hb hby d8_15) rfl (feq hc15_3).2 (by decide) (by decide) ?_
    refine XS.iloadN X2.here hx rfl (hb hby d8_32) rfl ?_
    refine XS.sipush X2.here hx rfl (hb hby d8_33) ?_
    exact kt
  have hc36_5 : ¬ ((128 : Int32) < w) := hle
  have pre7 : ∀ t, Steps p.tables e below (T2.setTop (mkF m 130 #[rv r0, iv p1, rv r2, iv w, .val (.long (w.toInt64)), .second, .unset, .unset] [(.ref r0), (.long (w.toInt64))])) t → Steps p.tables e below (s₁.setTop (entryFrame m #[(.ref r0), (.int p1), (.ref r2)] 8)) t := by
    intro t kt
    refine pre6 _ ?_
    show Steps p.tables e below (T2.setTop (mkF m 36 #[rv r0, iv p1, rv r2, iv w, .val (.long (w.toInt64)), .second, .unset, .unset] [(.int (128 : Int32)), (.int w)])) _
    refine XS.icmpYes X2.here hx rfl (pc0 := 36) (pc' := 127) rfl (hb hby d8_36) rfl (flt hc36_5).2.2.2 (by decide) (by decide) ?_
    refine XS.lload X2.here hx rfl (hb hby d8_127) rfl ?_
    refine XS.aloadN X2.here hx rfl (hb hby d8_129) rfl rfl ?_
    exact kt
  obtain ⟨T8, X8, e8, st8⟩ := getF X2 hx hZ hown (host := "") (Or.inl (hw _ (List.mem_of_getElem? (i := 21) rfl))) Via.refl rfl Fe_2 (g := (mkF m 130 #[rv r0, iv p1, rv r2, iv w, .val (.long (w.toInt64)), .second, .unset, .unset] [(.ref r0), (.long (w.toInt64))])) rfl rfl (hb hby d8_130)
  have pre9 : ∀ t, Steps p.tables e below (T8.setTop (mkF m 134 #[rv r0, iv p1, rv r2, iv w, .val (.long (w.toInt64)), .second, .unset, .unset] [(.ref r0), (.int en), (.long (w.toInt64))])) t → Steps p.tables e below (s₁.setTop (entryFrame m #[(.ref r0), (.int p1), (.ref r2)] 8)) t := by
    intro t kt
    refine pre7 _ ?_
    show Steps p.tables e below (T2.setTop (mkF m 130 #[rv r0, iv p1, rv r2, iv w, .val (.long (w.toInt64)), .second, .unset, .unset] [(.ref r0), (.long (w.toInt64))])) _
    refine st8 _ ?_
    show Steps p.tables e below (T8.setTop (mkF m 133 #[rv r0, iv p1, rv r2, iv w, .val (.long (w.toInt64)), .second, .unset, .unset] [(.int en), (.long (w.toInt64))])) _
    refine XS.aloadN X8.here hx rfl (hb hby d8_133) rfl rfl ?_
    exact kt
  obtain ⟨T10, X10, e10, st10⟩ := getF X8 hx hZ hown (host := "") (Or.inl (hw _ (List.mem_of_getElem? (i := 19) rfl))) Via.refl e8 Fp_2 (g := (mkF m 134 #[rv r0, iv p1, rv r2, iv w, .val (.long (w.toInt64)), .second, .unset, .unset] [(.ref r0), (.int en), (.long (w.toInt64))])) rfl rfl (hb hby d8_134)
  have pre12 : ∀ t, Steps p.tables e below (T10.setTop (mkF m 140 #[rv r0, iv p1, rv r2, iv w, .val (.long (w.toInt64)), .second, .unset, .unset] [(.int (lcmpW (w.toInt64) ((en - (4 : Int32)).toInt64)))])) t → Steps p.tables e below (s₁.setTop (entryFrame m #[(.ref r0), (.int p1), (.ref r2)] 8)) t := by
    intro t kt
    refine pre9 _ ?_
    show Steps p.tables e below (T8.setTop (mkF m 134 #[rv r0, iv p1, rv r2, iv w, .val (.long (w.toInt64)), .second, .unset, .unset] [(.ref r0), (.int en), (.long (w.toInt64))])) _
    refine st10 _ ?_
    show Steps p.tables e below (T10.setTop (mkF m 137 #[rv r0, iv p1, rv r2, iv w, .val (.long (w.toInt64)), .second, .unset, .unset] [(.int (4 : Int32)), (.int en), (.long (w.toInt64))])) _
    refine XS.isub X10.here hx rfl (hb hby d8_137) rfl ?_
    refine XS.i2l X10.here hx rfl (hb hby d8_138) rfl ?_
    refine XS.lcmp X10.here hx rfl (hb hby d8_139) rfl ?_
    exact kt
  have hc140_11 : ¬ ((0 : Int32) < (lcmpW (w.toInt64) ((en - (4 : Int32)).toInt64))) := hfit
  have pre13 : ∀ t, Steps p.tables e below (T10.setTop (mkF m 197 #[rv r0, iv p1, rv r2, iv w, .val (.long (w.toInt64)), .second, .unset, .unset] [(.int w)])) t → Steps p.tables e below (s₁.setTop (entryFrame m #[(.ref r0), (.int p1), (.ref r2)] 8)) t := by
    intro t kt
    refine pre12 _ ?_
    show Steps p.tables e below (T10.setTop (mkF m 140 #[rv r0, iv p1, rv r2, iv w, .val (.long (w.toInt64)), .second, .unset, .unset] [(.int (lcmpW (w.toInt64) ((en - (4 : Int32)).toInt64)))])) _
    refine XS.ifYes X10.here hx rfl (pc0 := 140) (pc' := 194) rfl (hb hby d8_140) rfl ((if0 _ _).trans (flt hc140_11).2.2.2) (by decide) (by decide) ?_
    refine XS.lload X10.here hx rfl (hb hby d8_194) rfl ?_
    refine XS.l2i X10.here hx rfl (hb hby d8_196) rfl ?_
    show Steps p.tables e below (T10.setTop (mkF m 197 #[rv r0, iv p1, rv r2, iv w, .val (.long (w.toInt64)), .second, .unset, .unset] [(.int ((w.toInt64).toInt32))])) _
    rw [show ((w.toInt64).toInt32) = w from (Int32.toInt32_toInt64 w)]
    exact kt
  obtain ⟨fs, hr, hrun, hended, hW, hsame⟩ := X10.leave (v := some (.int w)) (fun h => by rw [Bd.returns] at h; cases h)
  refine ⟨_, _, pre13 _ ?_, hrun, hended, _, _, rfl, ?_, ⟨_, rfl⟩, hW, hsame.mono (by decide) (by decide)⟩
  · show Steps p.tables e below (T10.setTop (mkF m 197 #[rv r0, iv p1, rv r2, iv w, .val (.long (w.toInt64)), .second, .unset, .unset] [(.int w)])) _
    exact retI X10 hx Bd.returns (hb hby d8_197) hr
  · show Q8i3 Z r0 p1 r2 ab kc dd0 dd1 dd2 dd3 dd4 dd5 dd6 dd7 en w h0 n0 _ T10.heap _
    rw [e10]
    exact ⟨rfl, N2, K2, Fb_2, Fp_2, Fe_2⟩

theorem ef_8i5 (m : MethodId) (x0 : Addr) (x1 : Int32) (x2 : Addr) : entryFrame m #[(.ref x0), (.int x1), (.ref x2)] 8 = mkF m 0 #[.val (.ref x0), .val (.int x1), .val (.ref x2), .unset, .unset, .unset, .unset, .unset] [] := by first | (simp [entryFrame, mkF, argsToLocals, Value.category]; done) | rfl
def Q8i5 (Z : State) (r0 : Addr) (p1 : Int32) (r2 : Addr) (ab : Addr) (kc : ClassId) (dd0 : Int32) (dd1 : Int32) (dd2 : Int32) (dd3 : Int32) (dd4 : Int32) (dd5 : Int32) (dd6 : Int32) (dd7 : Int32) (en : Int32) (w : Int32) (h0 : Heap) (n0 : Nat) (v : Option Value) (h : Heap) (L : List Loc) : Prop := v = some (.int w) ∧ Fr n0 L ∧ Keep h0 h [r0] ∧ Fld Z h r0 "com/example/fair_witness/fairwitness/attestation/DerReader" "bytes" "[B" (.ref ab) ∧ Fld Z h r0 "com/example/fair_witness/fairwitness/attestation/DerReader" "position" "I" (.int (6 : Int32)) ∧ Fld Z h r0 "com/example/fair_witness/fairwitness/attestation/DerReader" "end" "I" (.int en)
set_option maxRecDepth 65536 in
set_option maxHeartbeats 40000000 in
theorem rm8i5 (l : Launch) (Z : State) (a0 : Array Value) (hw : ∀ d ∈ tables_1, d.before a0 Z = true) (ws : List Jvm.Cond) (r0 : Addr) (p1 : Int32) (r2 : Addr) (ab : Addr) (kc : ClassId) (dd0 : Int32) (dd1 : Int32) (dd2 : Int32) (dd3 : Int32) (dd4 : Int32) (dd5 : Int32) (dd6 : Int32) (dd7 : Int32) (en : Int32) (w : Int32) (h0 : Heap) (n0 : Nat) (Z0 : n0 ≤ h0.size) (F_bytes_r0 : Fld Z h0 r0 "com/example/fair_witness/fairwitness/attestation/DerReader" "bytes" "[B" (.ref ab)) (F_position_r0 : Fld Z h0 r0 "com/example/fair_witness/fairwitness/attestation/DerReader" "position" "I" (.int (5 : Int32))) (F_end_r0 : Fld Z h0 r0 "com/example/fair_witness/fairwitness/attestation/DerReader" "end" "I" (.int en)) (E_r0 : Exa Z h0 r0 "com/example/fair_witness/fairwitness/attestation/DerReader") (g_r0 : n0 ≤ r0) (V_ab : Arv Z h0 ab kc .byte (8 : Int32) [(.int dd0), (.int dd1), (.int dd2), (.int dd3), (.int dd4), (.int dd5), (.int dd6), (.int dd7)] (.int (0 : Int32))) (E_ab : Exa Z h0 ab "[B") (hlt : (5 : Int32) < en) (hv5 : (dd5 &&& (255 : Int32)) = w) (hne : ¬ (w = (128 : Int32))) (hle : ¬ ((128 : Int32) < w)) (hfit : ¬ ((0 : Int32) < (lcmpW (w.toInt64) ((en - (6 : Int32)).toInt64)))) :
    MetFree l (⟨"com/example/fair_witness/fairwitness/attestation/DerReader", "readLength", "(ILjava/lang/String;)I"⟩ : MethodName) (head1 (Jvm.Cond.code (⟨"com/example/fair_witness/fairwitness/attestation/DerReader", "readLength", "(ILjava/lang/String;)I"⟩ : MethodName) prog_10_method_23_code 8 (some .int) :: ws) ({ frames := 1, cells := 0, slots := 0, locals := 14 } : Room)) (fun a U => a = #[(.ref r0), (.int p1), (.ref r2)] ∧ Z.Warmed39 U.vm ∧ U.heap = h0) (fun _ _ _ _ _ => True) (fun _ U o U' => ∃ v L, o = .returned v ∧ Q8i5 Z r0 p1 r2 ab kc dd0 dd1 dd2 dd3 dd4 dd5 dd6 dd7 en w h0 n0 v U'.heap L ∧ FrameEnd U o U' L ({ frames := 1, cells := 0, slots := 0, locals := 14 } : Room).cells ({ frames := 1, cells := 0, slots := 0, locals := 14 } : Room).slots) := by
  refine MetFree.of_bodySF (plainFor_of_name pn1) hisR ?_
  intro p e s m args below meth c s₁ Bd hml0 hP hK
  obtain ⟨rfl, hZ, hh⟩ := hP
  have hx := Bd.exec
  have hby := Bd.bytes
  have hml : c.maxLocals = 8 := hml0
  have hown : s.vm.findClass "com/example/fair_witness/fairwitness/attestation/DerReader" = some m.cls := findClass_of_methodNamed Bd.named
  have hnm := (name_of_methodNamed Bd.named Bd.method).1
  have X0 : Stand p l e ({ frames := 1, cells := 0, slots := 0, locals := 14 } : Room) s m #[(.ref r0), (.int p1), (.ref r2)] below meth c s₁ [] 0 0 := Stand.of_body Bd
  have e0 : s₁.heap = h0 := by rw [← hh, Bd.state]; rfl
  have N0 := Fr.nil n0
  have pre0 : ∀ t, Steps p.tables e below (s₁.setTop (mkF m 0 #[rv r0, iv p1, rv r2, .unset, .unset, .unset, .unset, .unset] [])) t → Steps p.tables e below (s₁.setTop (entryFrame m #[(.ref r0), (.int p1), (.ref r2)] 8)) t := fun t k => castTop (ef_8i5 m r0 p1 r2) k
  have pre1 : ∀ t, Steps p.tables e below (s₁.setTop (mkF m 3 #[rv r0, iv p1, rv r2, .unset, .unset, .unset, .unset, .unset] [(.ref r2), (.int p1), (.ref r0)])) t → Steps p.tables e below (s₁.setTop (entryFrame m #[(.ref r0), (.int p1), (.ref r2)] 8)) t := by
    intro t kt
    refine pre0 _ ?_
    show Steps p.tables e below (s₁.setTop (mkF m 0 #[rv r0, iv p1, rv r2, .unset, .unset, .unset, .unset, .unset] [])) _
    refine XS.aloadN X0.here hx rfl (hb hby d8_0) rfl rfl ?_
    refine XS.iloadN X0.here hx rfl (hb hby d8_1) rfl ?_
    refine XS.aloadN X0.here hx rfl (hb hby d8_2) rfl rfl ?_
    exact kt
  obtain ⟨cq2, q2, q2'⟩ := E_r0.cell
  obtain ⟨_, _, ⟨T2, L2, k2, n2⟩, -, X2, ⟨Lc2, hQ2, l2, y2, z2⟩, st2⟩ := X0.privateBack hx (y := (⟨"com/example/fair_witness/fairwitness/attestation/DerReader", "nextByte", "(ILjava/lang/String;)I"⟩ : MethodName)) hown (mvT hZ (hw _ (List.mem_of_getElem? (i := 39) rfl))) (mvT hZ (hw _ (List.mem_of_getElem? (i := 40) rfl))) (own_selp (y := (⟨"com/example/fair_witness/fairwitness/attestation/DerReader", "nextByte", "(ILjava/lang/String;)I"⟩ : MethodName)) (mvT hZ (hw _ (List.mem_of_getElem? (i := 6) rfl))) (Cond.privateMethod_at (mvP hZ (hw _ (List.mem_of_getElem? (i := 41) rfl)) (args := #[]))) (mvT hZ (hw _ (List.mem_of_getElem? (i := 40) rfl))) (by decide)) (Cond.privateMethod_at (mvP hZ (hw _ (List.mem_of_getElem? (i := 41) rfl)) (args := #[]))) (mvT hZ (hw _ (List.mem_of_getElem? (i := 42) rfl))) (by decide) (backOf (W := 0) (rm7i5 l Z a0 hw [] r0 p1 r2 ab kc dd0 dd1 dd2 dd3 dd4 dd5 dd6 dd7 en w h0 n0 (Nat.le_trans Z0 (Keep.refl h0 [r0]).1) F_bytes_r0 F_position_r0 F_end_r0 E_r0 g_r0 V_ab E_ab hlt hv5) hZ (hw _ (List.mem_of_getElem? (i := 42) rfl)) (hw _ (List.mem_of_getElem? (i := 7) rfl)) (by decide) (by decide)) (g := (mkF m 3 #[rv r0, iv p1, rv r2, .unset, .unset, .unset, .unset, .unset] [(.ref r2), (.int p1), (.ref r0)])) rfl (by rw [hml]; rfl) (Steps.refl _) (a := r0) (by rw [e0]; exact q2) q2' (argsL := [(.int p1), (.ref r2)]) (rest := []) (lenOf pd3 rfl) rfl (by show 2 * 0 + _ ≤ _; exact Nat.le_of_eq rfl) (hb hby d8_3) (fun _ _ => ⟨rfl, e0, (by decide : 0 + 0 ≤ _), (by decide : 0 + 0 ≤ _)⟩)
  dsimp only [Pt.U, Pt.locs, Pt.cells, Pt.slots] at X2 l2 y2 z2 st2 hQ2
  subst l2 y2 z2
  obtain ⟨rfl, N2q, Kc2, Fb_2, Fp_2, Fe_2⟩ := hQ2
  have N2 := Fr.app N0 N2q
  have K2 : Keep h0 T2.heap [r0] := (Keep.refl h0 [r0]).trans Kc2 (allS (Or.inl (List.mem_of_getElem? (i := 0) rfl)) all0)
  have pre4 : ∀ t, Steps p.tables e below (T2.setTop (mkF m 15 #[rv r0, iv p1, rv r2, iv w, .val (.long (w.toInt64)), .second, .unset, .unset] [(.int (128 : Int32)), (.int w)])) t → Steps p.tables e below (s₁.setTop (entryFrame m #[(.ref r0), (.int p1), (.ref r2)] 8)) t := by
    intro t kt
    refine pre1 _ ?_
    show Steps p.tables e below (s₁.setTop (mkF m 3 #[rv r0, iv p1, rv r2, .unset, .unset, .unset, .unset, .unset] [(.ref r2), (.int p1), (.ref r0)])) _
    refine st2.trans ?_
    show Steps p.tables e below (T2.setTop (mkF m 6 #[rv r0, iv p1, rv r2, .unset, .unset, .unset, .unset, .unset] [(.int w)])) _
    refine XS.istoreN X2.here hx rfl (hb hby d8_6) rfl (l' := #[rv r0, iv p1, rv r2, iv w, .unset, .unset, .unset, .unset]) rfl ?_
    refine XS.iloadN X2.here hx rfl (hb hby d8_7) rfl ?_
    refine XS.i2l X2.here hx rfl (hb hby d8_8) rfl ?_
    refine XS.lstore X2.here hx rfl (hb hby d8_9) rfl (l' := #[rv r0, iv p1, rv r2, iv w, .val (.long (w.toInt64)), .second, .unset, .unset]) rfl ?_
    refine XS.iloadN X2.here hx rfl (hb hby d8_11) rfl ?_
    refine XS.sipush X2.here hx rfl (hb hby d8_12) ?_
    exact kt
  have hc15_3 : ¬ (w = (128 : Int32)) := hne
  have pre6 : ∀ t, Steps p.tables e below (T2.setTop (mkF m 36 #[rv r0, iv p1, rv r2, iv w, .val (.long (w.toInt64)), .second, .unset, .unset] [(.int (128 : Int32)), (.int w)])) t → Steps p.tables e below (s₁.setTop (entryFrame m #[(.ref r0), (.int p1), (.ref r2)] 8)) t := by
    intro t kt
    refine pre4 _ ?_
    show Steps p.tables e below (T2.setTop (mkF m 15 #[rv r0, iv p1, rv r2, iv w, .val (.long (w.toInt64)), .second, .unset, .unset] [(.int (128 : Int32)), (.int w)])) _
    refine XS.icmpYes X2.here hx rfl (pc0 := 15) (pc' := 32) rfl (hb hby d8_15) rfl (feq hc15_3).2 (by decide) (by decide) ?_
    refine XS.iloadN X2.here hx rfl (hb hby d8_32) rfl ?_
    refine XS.sipush X2.here hx rfl (hb hby d8_33) ?_
    exact kt
  have hc36_5 : ¬ ((128 : Int32) < w) := hle
  have pre7 : ∀ t, Steps p.tables e below (T2.setTop (mkF m 130 #[rv r0, iv p1, rv r2, iv w, .val (.long (w.toInt64)), .second, .unset, .unset] [(.ref r0), (.long (w.toInt64))])) t → Steps p.tables e below (s₁.setTop (entryFrame m #[(.ref r0), (.int p1), (.ref r2)] 8)) t := by
    intro t kt
    refine pre6 _ ?_
    show Steps p.tables e below (T2.setTop (mkF m 36 #[rv r0, iv p1, rv r2, iv w, .val (.long (w.toInt64)), .second, .unset, .unset] [(.int (128 : Int32)), (.int w)])) _
    refine XS.icmpYes X2.here hx rfl (pc0 := 36) (pc' := 127) rfl (hb hby d8_36) rfl (flt hc36_5).2.2.2 (by decide) (by decide) ?_
    refine XS.lload X2.here hx rfl (hb hby d8_127) rfl ?_
    refine XS.aloadN X2.here hx rfl (hb hby d8_129) rfl rfl ?_
    exact kt
  obtain ⟨T8, X8, e8, st8⟩ := getF X2 hx hZ hown (host := "") (Or.inl (hw _ (List.mem_of_getElem? (i := 21) rfl))) Via.refl rfl Fe_2 (g := (mkF m 130 #[rv r0, iv p1, rv r2, iv w, .val (.long (w.toInt64)), .second, .unset, .unset] [(.ref r0), (.long (w.toInt64))])) rfl rfl (hb hby d8_130)
  have pre9 : ∀ t, Steps p.tables e below (T8.setTop (mkF m 134 #[rv r0, iv p1, rv r2, iv w, .val (.long (w.toInt64)), .second, .unset, .unset] [(.ref r0), (.int en), (.long (w.toInt64))])) t → Steps p.tables e below (s₁.setTop (entryFrame m #[(.ref r0), (.int p1), (.ref r2)] 8)) t := by
    intro t kt
    refine pre7 _ ?_
    show Steps p.tables e below (T2.setTop (mkF m 130 #[rv r0, iv p1, rv r2, iv w, .val (.long (w.toInt64)), .second, .unset, .unset] [(.ref r0), (.long (w.toInt64))])) _
    refine st8 _ ?_
    show Steps p.tables e below (T8.setTop (mkF m 133 #[rv r0, iv p1, rv r2, iv w, .val (.long (w.toInt64)), .second, .unset, .unset] [(.int en), (.long (w.toInt64))])) _
    refine XS.aloadN X8.here hx rfl (hb hby d8_133) rfl rfl ?_
    exact kt
  obtain ⟨T10, X10, e10, st10⟩ := getF X8 hx hZ hown (host := "") (Or.inl (hw _ (List.mem_of_getElem? (i := 19) rfl))) Via.refl e8 Fp_2 (g := (mkF m 134 #[rv r0, iv p1, rv r2, iv w, .val (.long (w.toInt64)), .second, .unset, .unset] [(.ref r0), (.int en), (.long (w.toInt64))])) rfl rfl (hb hby d8_134)
  have pre12 : ∀ t, Steps p.tables e below (T10.setTop (mkF m 140 #[rv r0, iv p1, rv r2, iv w, .val (.long (w.toInt64)), .second, .unset, .unset] [(.int (lcmpW (w.toInt64) ((en - (6 : Int32)).toInt64)))])) t → Steps p.tables e below (s₁.setTop (entryFrame m #[(.ref r0), (.int p1), (.ref r2)] 8)) t := by
    intro t kt
    refine pre9 _ ?_
    show Steps p.tables e below (T8.setTop (mkF m 134 #[rv r0, iv p1, rv r2, iv w, .val (.long (w.toInt64)), .second, .unset, .unset] [(.ref r0), (.int en), (.long (w.toInt64))])) _
    refine st10 _ ?_
    show Steps p.tables e below (T10.setTop (mkF m 137 #[rv r0, iv p1, rv r2, iv w, .val (.long (w.toInt64)), .second, .unset, .unset] [(.int (6 : Int32)), (.int en), (.long (w.toInt64))])) _
    refine XS.isub X10.here hx rfl (hb hby d8_137) rfl ?_
    refine XS.i2l X10.here hx rfl (hb hby d8_138) rfl ?_
    refine XS.lcmp X10.here hx rfl (hb hby d8_139) rfl ?_
    exact kt
  have hc140_11 : ¬ ((0 : Int32) < (lcmpW (w.toInt64) ((en - (6 : Int32)).toInt64))) := hfit
  have pre13 : ∀ t, Steps p.tables e below (T10.setTop (mkF m 197 #[rv r0, iv p1, rv r2, iv w, .val (.long (w.toInt64)), .second, .unset, .unset] [(.int w)])) t → Steps p.tables e below (s₁.setTop (entryFrame m #[(.ref r0), (.int p1), (.ref r2)] 8)) t := by
    intro t kt
    refine pre12 _ ?_
    show Steps p.tables e below (T10.setTop (mkF m 140 #[rv r0, iv p1, rv r2, iv w, .val (.long (w.toInt64)), .second, .unset, .unset] [(.int (lcmpW (w.toInt64) ((en - (6 : Int32)).toInt64)))])) _
    refine XS.ifYes X10.here hx rfl (pc0 := 140) (pc' := 194) rfl (hb hby d8_140) rfl ((if0 _ _).trans (flt hc140_11).2.2.2) (by decide) (by decide) ?_
    refine XS.lload X10.here hx rfl (hb hby d8_194) rfl ?_
    refine XS.l2i X10.here hx rfl (hb hby d8_196) rfl ?_
    show Steps p.tables e below (T10.setTop (mkF m 197 #[rv r0, iv p1, rv r2, iv w, .val (.long (w.toInt64)), .second, .unset, .unset] [(.int ((w.toInt64).toInt32))])) _
    rw [show ((w.toInt64).toInt32) = w from (Int32.toInt32_toInt64 w)]
    exact kt
  obtain ⟨fs, hr, hrun, hended, hW, hsame⟩ := X10.leave (v := some (.int w)) (fun h => by rw [Bd.returns] at h; cases h)
  refine ⟨_, _, pre13 _ ?_, hrun, hended, _, _, rfl, ?_, ⟨_, rfl⟩, hW, hsame.mono (by decide) (by decide)⟩
  · show Steps p.tables e below (T10.setTop (mkF m 197 #[rv r0, iv p1, rv r2, iv w, .val (.long (w.toInt64)), .second, .unset, .unset] [(.int w)])) _
    exact retI X10 hx Bd.returns (hb hby d8_197) hr
  · show Q8i5 Z r0 p1 r2 ab kc dd0 dd1 dd2 dd3 dd4 dd5 dd6 dd7 en w h0 n0 _ T10.heap _
    rw [e10]
    exact ⟨rfl, N2, K2, Fb_2, Fp_2, Fe_2⟩

theorem ef_8i6 (m : MethodId) (x0 : Addr) (x1 : Int32) (x2 : Addr) : entryFrame m #[(.ref x0), (.int x1), (.ref x2)] 8 = mkF m 0 #[.val (.ref x0), .val (.int x1), .val (.ref x2), .unset, .unset, .unset, .unset, .unset] [] := by first | (simp [entryFrame, mkF, argsToLocals, Value.category]; done) | rfl
def Q8i6 (Z : State) (r0 : Addr) (p1 : Int32) (r2 : Addr) (ab : Addr) (kc : ClassId) (dd0 : Int32) (dd1 : Int32) (dd2 : Int32) (dd3 : Int32) (dd4 : Int32) (dd5 : Int32) (dd6 : Int32) (dd7 : Int32) (en : Int32) (w : Int32) (h0 : Heap) (n0 : Nat) (v : Option Value) (h : Heap) (L : List Loc) : Prop := v = some (.int w) ∧ Fr n0 L ∧ Keep h0 h [r0] ∧ Fld Z h r0 "com/example/fair_witness/fairwitness/attestation/DerReader" "bytes" "[B" (.ref ab) ∧ Fld Z h r0 "com/example/fair_witness/fairwitness/attestation/DerReader" "position" "I" (.int (7 : Int32)) ∧ Fld Z h r0 "com/example/fair_witness/fairwitness/attestation/DerReader" "end" "I" (.int en)
set_option maxRecDepth 65536 in
set_option maxHeartbeats 40000000 in
theorem rm8i6 (l : Launch) (Z : State) (a0 : Array Value) (hw : ∀ d ∈ tables_1, d.before a0 Z = true) (ws : List Jvm.Cond) (r0 : Addr) (p1 : Int32) (r2 : Addr) (ab : Addr) (kc : ClassId) (dd0 : Int32) (dd1 : Int32) (dd2 : Int32) (dd3 : Int32) (dd4 : Int32) (dd5 : Int32) (dd6 : Int32) (dd7 : Int32) (en : Int32) (w : Int32) (h0 : Heap) (n0 : Nat) (Z0 : n0 ≤ h0.size) (F_bytes_r0 : Fld Z h0 r0 "com/example/fair_witness/fairwitness/attestation/DerReader" "bytes" "[B" (.ref ab)) (F_position_r0 : Fld Z h0 r0 "com/example/fair_witness/fairwitness/attestation/DerReader" "position" "I" (.int (6 : Int32))) (F_end_r0 : Fld Z h0 r0 "com/example/fair_witness/fairwitness/attestation/DerReader" "end" "I" (.int en)) (E_r0 : Exa Z h0 r0 "com/example/fair_witness/fairwitness/attestation/DerReader") (g_r0 : n0 ≤ r0) (V_ab : Arv Z h0 ab kc .byte (8 : Int32) [(.int dd0), (.int dd1), (.int dd2), (.int dd3), (.int dd4), (.int dd5), (.int dd6), (.int dd7)] (.int (0 : Int32))) (E_ab : Exa Z h0 ab "[B") (hlt : (6 : Int32) < en) (hv6 : (dd6 &&& (255 : Int32)) = w) (hne : ¬ (w = (128 : Int32))) (hle : ¬ ((128 : Int32) < w)) (hfit : ¬ ((0 : Int32) < (lcmpW (w.toInt64) ((en - (7 : Int32)).toInt64)))) :
    MetFree l (⟨"com/example/fair_witness/fairwitness/attestation/DerReader", "readLength", "(ILjava/lang/String;)I"⟩ : MethodName) (head1 (Jvm.Cond.code (⟨"com/example/fair_witness/fairwitness/attestation/DerReader", "readLength", "(ILjava/lang/String;)I"⟩ : MethodName) prog_10_method_23_code 8 (some .int) :: ws) ({ frames := 1, cells := 0, slots := 0, locals := 14 } : Room)) (fun a U => a = #[(.ref r0), (.int p1), (.ref r2)] ∧ Z.Warmed39 U.vm ∧ U.heap = h0) (fun _ _ _ _ _ => True) (fun _ U o U' => ∃ v L, o = .returned v ∧ Q8i6 Z r0 p1 r2 ab kc dd0 dd1 dd2 dd3 dd4 dd5 dd6 dd7 en w h0 n0 v U'.heap L ∧ FrameEnd U o U' L ({ frames := 1, cells := 0, slots := 0, locals := 14 } : Room).cells ({ frames := 1, cells := 0, slots := 0, locals := 14 } : Room).slots) := by
  refine MetFree.of_bodySF (plainFor_of_name pn1) hisR ?_
  intro p e s m args below meth c s₁ Bd hml0 hP hK
  obtain ⟨rfl, hZ, hh⟩ := hP
  have hx := Bd.exec
  have hby := Bd.bytes
  have hml : c.maxLocals = 8 := hml0
  have hown : s.vm.findClass "com/example/fair_witness/fairwitness/attestation/DerReader" = some m.cls := findClass_of_methodNamed Bd.named
  have hnm := (name_of_methodNamed Bd.named Bd.method).1
  have X0 : Stand p l e ({ frames := 1, cells := 0, slots := 0, locals := 14 } : Room) s m #[(.ref r0), (.int p1), (.ref r2)] below meth c s₁ [] 0 0 := Stand.of_body Bd
  have e0 : s₁.heap = h0 := by rw [← hh, Bd.state]; rfl
  have N0 := Fr.nil n0
  have pre0 : ∀ t, Steps p.tables e below (s₁.setTop (mkF m 0 #[rv r0, iv p1, rv r2, .unset, .unset, .unset, .unset, .unset] [])) t → Steps p.tables e below (s₁.setTop (entryFrame m #[(.ref r0), (.int p1), (.ref r2)] 8)) t := fun t k => castTop (ef_8i6 m r0 p1 r2) k
  have pre1 : ∀ t, Steps p.tables e below (s₁.setTop (mkF m 3 #[rv r0, iv p1, rv r2, .unset, .unset, .unset, .unset, .unset] [(.ref r2), (.int p1), (.ref r0)])) t → Steps p.tables e below (s₁.setTop (entryFrame m #[(.ref r0), (.int p1), (.ref r2)] 8)) t := by
    intro t kt
    refine pre0 _ ?_
    show Steps p.tables e below (s₁.setTop (mkF m 0 #[rv r0, iv p1, rv r2, .unset, .unset, .unset, .unset, .unset] [])) _
    refine XS.aloadN X0.here hx rfl (hb hby d8_0) rfl rfl ?_
    refine XS.iloadN X0.here hx rfl (hb hby d8_1) rfl ?_
    refine XS.aloadN X0.here hx rfl (hb hby d8_2) rfl rfl ?_
    exact kt
  obtain ⟨cq2, q2, q2'⟩ := E_r0.cell
  obtain ⟨_, _, ⟨T2, L2, k2, n2⟩, -, X2, ⟨Lc2, hQ2, l2, y2, z2⟩, st2⟩ := X0.privateBack hx (y := (⟨"com/example/fair_witness/fairwitness/attestation/DerReader", "nextByte", "(ILjava/lang/String;)I"⟩ : MethodName)) hown (mvT hZ (hw _ (List.mem_of_getElem? (i := 39) rfl))) (mvT hZ (hw _ (List.mem_of_getElem? (i := 40) rfl))) (own_selp (y := (⟨"com/example/fair_witness/fairwitness/attestation/DerReader", "nextByte", "(ILjava/lang/String;)I"⟩ : MethodName)) (mvT hZ (hw _ (List.mem_of_getElem? (i := 6) rfl))) (Cond.privateMethod_at (mvP hZ (hw _ (List.mem_of_getElem? (i := 41) rfl)) (args := #[]))) (mvT hZ (hw _ (List.mem_of_getElem? (i := 40) rfl))) (by decide)) (Cond.privateMethod_at (mvP hZ (hw _ (List.mem_of_getElem? (i := 41) rfl)) (args := #[]))) (mvT hZ (hw _ (List.mem_of_getElem? (i := 42) rfl))) (by decide) (backOf (W := 0) (rm7i6 l Z a0 hw [] r0 p1 r2 ab kc dd0 dd1 dd2 dd3 dd4 dd5 dd6 dd7 en w h0 n0 (Nat.le_trans Z0 (Keep.refl h0 [r0]).1) F_bytes_r0 F_position_r0 F_end_r0 E_r0 g_r0 V_ab E_ab hlt hv6) hZ (hw _ (List.mem_of_getElem? (i := 42) rfl)) (hw _ (List.mem_of_getElem? (i := 7) rfl)) (by decide) (by decide)) (g := (mkF m 3 #[rv r0, iv p1, rv r2, .unset, .unset, .unset, .unset, .unset] [(.ref r2), (.int p1), (.ref r0)])) rfl (by rw [hml]; rfl) (Steps.refl _) (a := r0) (by rw [e0]; exact q2) q2' (argsL := [(.int p1), (.ref r2)]) (rest := []) (lenOf pd3 rfl) rfl (by show 2 * 0 + _ ≤ _; exact Nat.le_of_eq rfl) (hb hby d8_3) (fun _ _ => ⟨rfl, e0, (by decide : 0 + 0 ≤ _), (by decide : 0 + 0 ≤ _)⟩)
  dsimp only [Pt.U, Pt.locs, Pt.cells, Pt.slots] at X2 l2 y2 z2 st2 hQ2
  subst l2 y2 z2
  obtain ⟨rfl, N2q, Kc2, Fb_2, Fp_2, Fe_2⟩ := hQ2
  have N2 := Fr.app N0 N2q
  have K2 : Keep h0 T2.heap [r0] := (Keep.refl h0 [r0]).trans Kc2 (allS (Or.inl (List.mem_of_getElem? (i := 0) rfl)) all0)
  have pre4 : ∀ t, Steps p.tables e below (T2.setTop (mkF m 15 #[rv r0, iv p1, rv r2, iv w, .val (.long (w.toInt64)), .second, .unset, .unset] [(.int (128 : Int32)), (.int w)])) t → Steps p.tables e below (s₁.setTop (entryFrame m #[(.ref r0), (.int p1), (.ref r2)] 8)) t := by
    intro t kt
    refine pre1 _ ?_
    show Steps p.tables e below (s₁.setTop (mkF m 3 #[rv r0, iv p1, rv r2, .unset, .unset, .unset, .unset, .unset] [(.ref r2), (.int p1), (.ref r0)])) _
    refine st2.trans ?_
    show Steps p.tables e below (T2.setTop (mkF m 6 #[rv r0, iv p1, rv r2, .unset, .unset, .unset, .unset, .unset] [(.int w)])) _
    refine XS.istoreN X2.here hx rfl (hb hby d8_6) rfl (l' := #[rv r0, iv p1, rv r2, iv w, .unset, .unset, .unset, .unset]) rfl ?_
    refine XS.iloadN X2.here hx rfl (hb hby d8_7) rfl ?_
    refine XS.i2l X2.here hx rfl (hb hby d8_8) rfl ?_
    refine XS.lstore X2.here hx rfl (hb hby d8_9) rfl (l' := #[rv r0, iv p1, rv r2, iv w, .val (.long (w.toInt64)), .second, .unset, .unset]) rfl ?_
    refine XS.iloadN X2.here hx rfl (hb hby d8_11) rfl ?_
    refine XS.sipush X2.here hx rfl (hb hby d8_12) ?_
    exact kt
  have hc15_3 : ¬ (w = (128 : Int32)) := hne
  have pre6 : ∀ t, Steps p.tables e below (T2.setTop (mkF m 36 #[rv r0, iv p1, rv r2, iv w, .val (.long (w.toInt64)), .second, .unset, .unset] [(.int (128 : Int32)), (.int w)])) t → Steps p.tables e below (s₁.setTop (entryFrame m #[(.ref r0), (.int p1), (.ref r2)] 8)) t := by
    intro t kt
    refine pre4 _ ?_
    show Steps p.tables e below (T2.setTop (mkF m 15 #[rv r0, iv p1, rv r2, iv w, .val (.long (w.toInt64)), .second, .unset, .unset] [(.int (128 : Int32)), (.int w)])) _
    refine XS.icmpYes X2.here hx rfl (pc0 := 15) (pc' := 32) rfl (hb hby d8_15) rfl (feq hc15_3).2 (by decide) (by decide) ?_
    refine XS.iloadN X2.here hx rfl (hb hby d8_32) rfl ?_
    refine XS.sipush X2.here hx rfl (hb hby d8_33) ?_
    exact kt
  have hc36_5 : ¬ ((128 : Int32) < w) := hle
  have pre7 : ∀ t, Steps p.tables e below (T2.setTop (mkF m 130 #[rv r0, iv p1, rv r2, iv w, .val (.long (w.toInt64)), .second, .unset, .unset] [(.ref r0), (.long (w.toInt64))])) t → Steps p.tables e below (s₁.setTop (entryFrame m #[(.ref r0), (.int p1), (.ref r2)] 8)) t := by
    intro t kt
    refine pre6 _ ?_
    show Steps p.tables e below (T2.setTop (mkF m 36 #[rv r0, iv p1, rv r2, iv w, .val (.long (w.toInt64)), .second, .unset, .unset] [(.int (128 : Int32)), (.int w)])) _
    refine XS.icmpYes X2.here hx rfl (pc0 := 36) (pc' := 127) rfl (hb hby d8_36) rfl (flt hc36_5).2.2.2 (by decide) (by decide) ?_
    refine XS.lload X2.here hx rfl (hb hby d8_127) rfl ?_
    refine XS.aloadN X2.here hx rfl (hb hby d8_129) rfl rfl ?_
    exact kt
  obtain ⟨T8, X8, e8, st8⟩ := getF X2 hx hZ hown (host := "") (Or.inl (hw _ (List.mem_of_getElem? (i := 21) rfl))) Via.refl rfl Fe_2 (g := (mkF m 130 #[rv r0, iv p1, rv r2, iv w, .val (.long (w.toInt64)), .second, .unset, .unset] [(.ref r0), (.long (w.toInt64))])) rfl rfl (hb hby d8_130)
  have pre9 : ∀ t, Steps p.tables e below (T8.setTop (mkF m 134 #[rv r0, iv p1, rv r2, iv w, .val (.long (w.toInt64)), .second, .unset, .unset] [(.ref r0), (.int en), (.long (w.toInt64))])) t → Steps p.tables e below (s₁.setTop (entryFrame m #[(.ref r0), (.int p1), (.ref r2)] 8)) t := by
    intro t kt
    refine pre7 _ ?_
    show Steps p.tables e below (T2.setTop (mkF m 130 #[rv r0, iv p1, rv r2, iv w, .val (.long (w.toInt64)), .second, .unset, .unset] [(.ref r0), (.long (w.toInt64))])) _
    refine st8 _ ?_
    show Steps p.tables e below (T8.setTop (mkF m 133 #[rv r0, iv p1, rv r2, iv w, .val (.long (w.toInt64)), .second, .unset, .unset] [(.int en), (.long (w.toInt64))])) _
    refine XS.aloadN X8.here hx rfl (hb hby d8_133) rfl rfl ?_
    exact kt
  obtain ⟨T10, X10, e10, st10⟩ := getF X8 hx hZ hown (host := "") (Or.inl (hw _ (List.mem_of_getElem? (i := 19) rfl))) Via.refl e8 Fp_2 (g := (mkF m 134 #[rv r0, iv p1, rv r2, iv w, .val (.long (w.toInt64)), .second, .unset, .unset] [(.ref r0), (.int en), (.long (w.toInt64))])) rfl rfl (hb hby d8_134)
  have pre12 : ∀ t, Steps p.tables e below (T10.setTop (mkF m 140 #[rv r0, iv p1, rv r2, iv w, .val (.long (w.toInt64)), .second, .unset, .unset] [(.int (lcmpW (w.toInt64) ((en - (7 : Int32)).toInt64)))])) t → Steps p.tables e below (s₁.setTop (entryFrame m #[(.ref r0), (.int p1), (.ref r2)] 8)) t := by
    intro t kt
    refine pre9 _ ?_
    show Steps p.tables e below (T8.setTop (mkF m 134 #[rv r0, iv p1, rv r2, iv w, .val (.long (w.toInt64)), .second, .unset, .unset] [(.ref r0), (.int en), (.long (w.toInt64))])) _
    refine st10 _ ?_
    show Steps p.tables e below (T10.setTop (mkF m 137 #[rv r0, iv p1, rv r2, iv w, .val (.long (w.toInt64)), .second, .unset, .unset] [(.int (7 : Int32)), (.int en), (.long (w.toInt64))])) _
    refine XS.isub X10.here hx rfl (hb hby d8_137) rfl ?_
    refine XS.i2l X10.here hx rfl (hb hby d8_138) rfl ?_
    refine XS.lcmp X10.here hx rfl (hb hby d8_139) rfl ?_
    exact kt
  have hc140_11 : ¬ ((0 : Int32) < (lcmpW (w.toInt64) ((en - (7 : Int32)).toInt64))) := hfit
  have pre13 : ∀ t, Steps p.tables e below (T10.setTop (mkF m 197 #[rv r0, iv p1, rv r2, iv w, .val (.long (w.toInt64)), .second, .unset, .unset] [(.int w)])) t → Steps p.tables e below (s₁.setTop (entryFrame m #[(.ref r0), (.int p1), (.ref r2)] 8)) t := by
    intro t kt
    refine pre12 _ ?_
    show Steps p.tables e below (T10.setTop (mkF m 140 #[rv r0, iv p1, rv r2, iv w, .val (.long (w.toInt64)), .second, .unset, .unset] [(.int (lcmpW (w.toInt64) ((en - (7 : Int32)).toInt64)))])) _
    refine XS.ifYes X10.here hx rfl (pc0 := 140) (pc' := 194) rfl (hb hby d8_140) rfl ((if0 _ _).trans (flt hc140_11).2.2.2) (by decide) (by decide) ?_
    refine XS.lload X10.here hx rfl (hb hby d8_194) rfl ?_
    refine XS.l2i X10.here hx rfl (hb hby d8_196) rfl ?_
    show Steps p.tables e below (T10.setTop (mkF m 197 #[rv r0, iv p1, rv r2, iv w, .val (.long (w.toInt64)), .second, .unset, .unset] [(.int ((w.toInt64).toInt32))])) _
    rw [show ((w.toInt64).toInt32) = w from (Int32.toInt32_toInt64 w)]
    exact kt
  obtain ⟨fs, hr, hrun, hended, hW, hsame⟩ := X10.leave (v := some (.int w)) (fun h => by rw [Bd.returns] at h; cases h)
  refine ⟨_, _, pre13 _ ?_, hrun, hended, _, _, rfl, ?_, ⟨_, rfl⟩, hW, hsame.mono (by decide) (by decide)⟩
  · show Steps p.tables e below (T10.setTop (mkF m 197 #[rv r0, iv p1, rv r2, iv w, .val (.long (w.toInt64)), .second, .unset, .unset] [(.int w)])) _
    exact retI X10 hx Bd.returns (hb hby d8_197) hr
  · show Q8i6 Z r0 p1 r2 ab kc dd0 dd1 dd2 dd3 dd4 dd5 dd6 dd7 en w h0 n0 _ T10.heap _
    rw [e10]
    exact ⟨rfl, N2, K2, Fb_2, Fp_2, Fe_2⟩

theorem ef_8i7 (m : MethodId) (x0 : Addr) (x1 : Int32) (x2 : Addr) : entryFrame m #[(.ref x0), (.int x1), (.ref x2)] 8 = mkF m 0 #[.val (.ref x0), .val (.int x1), .val (.ref x2), .unset, .unset, .unset, .unset, .unset] [] := by first | (simp [entryFrame, mkF, argsToLocals, Value.category]; done) | rfl
def Q8i7 (Z : State) (r0 : Addr) (p1 : Int32) (r2 : Addr) (ab : Addr) (kc : ClassId) (dd0 : Int32) (dd1 : Int32) (dd2 : Int32) (dd3 : Int32) (dd4 : Int32) (dd5 : Int32) (dd6 : Int32) (dd7 : Int32) (en : Int32) (w : Int32) (h0 : Heap) (n0 : Nat) (v : Option Value) (h : Heap) (L : List Loc) : Prop := v = some (.int w) ∧ Fr n0 L ∧ Keep h0 h [r0] ∧ Fld Z h r0 "com/example/fair_witness/fairwitness/attestation/DerReader" "bytes" "[B" (.ref ab) ∧ Fld Z h r0 "com/example/fair_witness/fairwitness/attestation/DerReader" "position" "I" (.int (8 : Int32)) ∧ Fld Z h r0 "com/example/fair_witness/fairwitness/attestation/DerReader" "end" "I" (.int en)
set_option maxRecDepth 65536 in
set_option maxHeartbeats 40000000 in
theorem rm8i7 (l : Launch) (Z : State) (a0 : Array Value) (hw : ∀ d ∈ tables_1, d.before a0 Z = true) (ws : List Jvm.Cond) (r0 : Addr) (p1 : Int32) (r2 : Addr) (ab : Addr) (kc : ClassId) (dd0 : Int32) (dd1 : Int32) (dd2 : Int32) (dd3 : Int32) (dd4 : Int32) (dd5 : Int32) (dd6 : Int32) (dd7 : Int32) (en : Int32) (w : Int32) (h0 : Heap) (n0 : Nat) (Z0 : n0 ≤ h0.size) (F_bytes_r0 : Fld Z h0 r0 "com/example/fair_witness/fairwitness/attestation/DerReader" "bytes" "[B" (.ref ab)) (F_position_r0 : Fld Z h0 r0 "com/example/fair_witness/fairwitness/attestation/DerReader" "position" "I" (.int (7 : Int32))) (F_end_r0 : Fld Z h0 r0 "com/example/fair_witness/fairwitness/attestation/DerReader" "end" "I" (.int en)) (E_r0 : Exa Z h0 r0 "com/example/fair_witness/fairwitness/attestation/DerReader") (g_r0 : n0 ≤ r0) (V_ab : Arv Z h0 ab kc .byte (8 : Int32) [(.int dd0), (.int dd1), (.int dd2), (.int dd3), (.int dd4), (.int dd5), (.int dd6), (.int dd7)] (.int (0 : Int32))) (E_ab : Exa Z h0 ab "[B") (hlt : (7 : Int32) < en) (hv7 : (dd7 &&& (255 : Int32)) = w) (hne : ¬ (w = (128 : Int32))) (hle : ¬ ((128 : Int32) < w)) (hfit : ¬ ((0 : Int32) < (lcmpW (w.toInt64) ((en - (8 : Int32)).toInt64)))) :
    MetFree l (⟨"com/example/fair_witness/fairwitness/attestation/DerReader", "readLength", "(ILjava/lang/String;)I"⟩ : MethodName) (head1 (Jvm.Cond.code (⟨"com/example/fair_witness/fairwitness/attestation/DerReader", "readLength", "(ILjava/lang/String;)I"⟩ : MethodName) prog_10_method_23_code 8 (some .int) :: ws) ({ frames := 1, cells := 0, slots := 0, locals := 14 } : Room)) (fun a U => a = #[(.ref r0), (.int p1), (.ref r2)] ∧ Z.Warmed39 U.vm ∧ U.heap = h0) (fun _ _ _ _ _ => True) (fun _ U o U' => ∃ v L, o = .returned v ∧ Q8i7 Z r0 p1 r2 ab kc dd0 dd1 dd2 dd3 dd4 dd5 dd6 dd7 en w h0 n0 v U'.heap L ∧ FrameEnd U o U' L ({ frames := 1, cells := 0, slots := 0, locals := 14 } : Room).cells ({ frames := 1, cells := 0, slots := 0, locals := 14 } : Room).slots) := by
  refine MetFree.of_bodySF (plainFor_of_name pn1) hisR ?_
  intro p e s m args below meth c s₁ Bd hml0 hP hK
  obtain ⟨rfl, hZ, hh⟩ := hP
  have hx := Bd.exec
  have hby := Bd.bytes
  have hml : c.maxLocals = 8 := hml0
  have hown : s.vm.findClass "com/example/fair_witness/fairwitness/attestation/DerReader" = some m.cls := findClass_of_methodNamed Bd.named
  have hnm := (name_of_methodNamed Bd.named Bd.method).1
  have X0 : Stand p l e ({ frames := 1, cells := 0, slots := 0, locals := 14 } : Room) s m #[(.ref r0), (.int p1), (.ref r2)] below meth c s₁ [] 0 0 := Stand.of_body Bd
  have e0 : s₁.heap = h0 := by rw [← hh, Bd.state]; rfl
  have N0 := Fr.nil n0
  have pre0 : ∀ t, Steps p.tables e below (s₁.setTop (mkF m 0 #[rv r0, iv p1, rv r2, .unset, .unset, .unset, .unset, .unset] [])) t → Steps p.tables e below (s₁.setTop (entryFrame m #[(.ref r0), (.int p1), (.ref r2)] 8)) t := fun t k => castTop (ef_8i7 m r0 p1 r2) k
  have pre1 : ∀ t, Steps p.tables e below (s₁.setTop (mkF m 3 #[rv r0, iv p1, rv r2, .unset, .unset, .unset, .unset, .unset] [(.ref r2), (.int p1), (.ref r0)])) t → Steps p.tables e below (s₁.setTop (entryFrame m #[(.ref r0), (.int p1), (.ref r2)] 8)) t := by
    intro t kt
    refine pre0 _ ?_
    show Steps p.tables e below (s₁.setTop (mkF m 0 #[rv r0, iv p1, rv r2, .unset, .unset, .unset, .unset, .unset] [])) _
    refine XS.aloadN X0.here hx rfl (hb hby d8_0) rfl rfl ?_
    refine XS.iloadN X0.here hx rfl (hb hby d8_1) rfl ?_
    refine XS.aloadN X0.here hx rfl (hb hby d8_2) rfl rfl ?_
    exact kt
  obtain ⟨cq2, q2, q2'⟩ := E_r0.cell
  obtain ⟨_, _, ⟨T2, L2, k2, n2⟩, -, X2, ⟨Lc2, hQ2, l2, y2, z2⟩, st2⟩ := X0.privateBack hx (y := (⟨"com/example/fair_witness/fairwitness/attestation/DerReader", "nextByte", "(ILjava/lang/String;)I"⟩ : MethodName)) hown (mvT hZ (hw _ (List.mem_of_getElem? (i := 39) rfl))) (mvT hZ (hw _ (List.mem_of_getElem? (i := 40) rfl))) (own_selp (y := (⟨"com/example/fair_witness/fairwitness/attestation/DerReader", "nextByte", "(ILjava/lang/String;)I"⟩ : MethodName)) (mvT hZ (hw _ (List.mem_of_getElem? (i := 6) rfl))) (Cond.privateMethod_at (mvP hZ (hw _ (List.mem_of_getElem? (i := 41) rfl)) (args := #[]))) (mvT hZ (hw _ (List.mem_of_getElem? (i := 40) rfl))) (by decide)) (Cond.privateMethod_at (mvP hZ (hw _ (List.mem_of_getElem? (i := 41) rfl)) (args := #[]))) (mvT hZ (hw _ (List.mem_of_getElem? (i := 42) rfl))) (by decide) (backOf (W := 0) (rm7i7 l Z a0 hw [] r0 p1 r2 ab kc dd0 dd1 dd2 dd3 dd4 dd5 dd6 dd7 en w h0 n0 (Nat.le_trans Z0 (Keep.refl h0 [r0]).1) F_bytes_r0 F_position_r0 F_end_r0 E_r0 g_r0 V_ab E_ab hlt hv7) hZ (hw _ (List.mem_of_getElem? (i := 42) rfl)) (hw _ (List.mem_of_getElem? (i := 7) rfl)) (by decide) (by decide)) (g := (mkF m 3 #[rv r0, iv p1, rv r2, .unset, .unset, .unset, .unset, .unset] [(.ref r2), (.int p1), (.ref r0)])) rfl (by rw [hml]; rfl) (Steps.refl _) (a := r0) (by rw [e0]; exact q2) q2' (argsL := [(.int p1), (.ref r2)]) (rest := []) (lenOf pd3 rfl) rfl (by show 2 * 0 + _ ≤ _; exact Nat.le_of_eq rfl) (hb hby d8_3) (fun _ _ => ⟨rfl, e0, (by decide : 0 + 0 ≤ _), (by decide : 0 + 0 ≤ _)⟩)
  dsimp only [Pt.U, Pt.locs, Pt.cells, Pt.slots] at X2 l2 y2 z2 st2 hQ2
  subst l2 y2 z2
  obtain ⟨rfl, N2q, Kc2, Fb_2, Fp_2, Fe_2⟩ := hQ2
  have N2 := Fr.app N0 N2q
  have K2 : Keep h0 T2.heap [r0] := (Keep.refl h0 [r0]).trans Kc2 (allS (Or.inl (List.mem_of_getElem? (i := 0) rfl)) all0)
  have pre4 : ∀ t, Steps p.tables e below (T2.setTop (mkF m 15 #[rv r0, iv p1, rv r2, iv w, .val (.long (w.toInt64)), .second, .unset, .unset] [(.int (128 : Int32)), (.int w)])) t → Steps p.tables e below (s₁.setTop (entryFrame m #[(.ref r0), (.int p1), (.ref r2)] 8)) t := by
    intro t kt
    refine pre1 _ ?_
    show Steps p.tables e below (s₁.setTop (mkF m 3 #[rv r0, iv p1, rv r2, .unset, .unset, .unset, .unset, .unset] [(.ref r2), (.int p1), (.ref r0)])) _
    refine st2.trans ?_
    show Steps p.tables e below (T2.setTop (mkF m 6 #[rv r0, iv p1, rv r2, .unset, .unset, .unset, .unset, .unset] [(.int w)])) _
    refine XS.istoreN X2.here hx rfl (hb hby d8_6) rfl (l' := #[rv r0, iv p1, rv r2, iv w, .unset, .unset, .unset, .unset]) rfl ?_
    refine XS.iloadN X2.here hx rfl (hb hby d8_7) rfl ?_
    refine XS.i2l X2.here hx rfl (hb hby d8_8) rfl ?_
    refine XS.lstore X2.here hx rfl (hb hby d8_9) rfl (l' := #[rv r0, iv p1, rv r2, iv w, .val (.long (w.toInt64)), .second, .unset, .unset]) rfl ?_
    refine XS.iloadN X2.here hx rfl (hb hby d8_11) rfl ?_
    refine XS.sipush X2.here hx rfl (hb hby d8_12) ?_
    exact kt
  have hc15_3 : ¬ (w = (128 : Int32)) := hne
  have pre6 : ∀ t, Steps p.tables e below (T2.setTop (mkF m 36 #[rv r0, iv p1, rv r2, iv w, .val (.long (w.toInt64)), .second, .unset, .unset] [(.int (128 : Int32)), (.int w)])) t → Steps p.tables e below (s₁.setTop (entryFrame m #[(.ref r0), (.int p1), (.ref r2)] 8)) t := by
    intro t kt
    refine pre4 _ ?_
    show Steps p.tables e below (T2.setTop (mkF m 15 #[rv r0, iv p1, rv r2, iv w, .val (.long (w.toInt64)), .second, .unset, .unset] [(.int (128 : Int32)), (.int w)])) _
    refine XS.icmpYes X2.here hx rfl (pc0 := 15) (pc' := 32) rfl (hb hby d8_15) rfl (feq hc15_3).2 (by decide) (by decide) ?_
    refine XS.iloadN X2.here hx rfl (hb hby d8_32) rfl ?_
    refine XS.sipush X2.here hx rfl (hb hby d8_33) ?_
    exact kt
  have hc36_5 : ¬ ((128 : Int32) < w) := hle
  have pre7 : ∀ t, Steps p.tables e below (T2.setTop (mkF m 130 #[rv r0, iv p1, rv r2, iv w, .val (.long (w.toInt64)), .second, .unset, .unset] [(.ref r0), (.long (w.toInt64))])) t → Steps p.tables e below (s₁.setTop (entryFrame m #[(.ref r0), (.int p1), (.ref r2)] 8)) t := by
    intro t kt
    refine pre6 _ ?_
    show Steps p.tables e below (T2.setTop (mkF m 36 #[rv r0, iv p1, rv r2, iv w, .val (.long (w.toInt64)), .second, .unset, .unset] [(.int (128 : Int32)), (.int w)])) _
    refine XS.icmpYes X2.here hx rfl (pc0 := 36) (pc' := 127) rfl (hb hby d8_36) rfl (flt hc36_5).2.2.2 (by decide) (by decide) ?_
    refine XS.lload X2.here hx rfl (hb hby d8_127) rfl ?_
    refine XS.aloadN X2.here hx rfl (hb hby d8_129) rfl rfl ?_
    exact kt
  obtain ⟨T8, X8, e8, st8⟩ := getF X2 hx hZ hown (host := "") (Or.inl (hw _ (List.mem_of_getElem? (i := 21) rfl))) Via.refl rfl Fe_2 (g := (mkF m 130 #[rv r0, iv p1, rv r2, iv w, .val (.long (w.toInt64)), .second, .unset, .unset] [(.ref r0), (.long (w.toInt64))])) rfl rfl (hb hby d8_130)
  have pre9 : ∀ t, Steps p.tables e below (T8.setTop (mkF m 134 #[rv r0, iv p1, rv r2, iv w, .val (.long (w.toInt64)), .second, .unset, .unset] [(.ref r0), (.int en), (.long (w.toInt64))])) t → Steps p.tables e below (s₁.setTop (entryFrame m #[(.ref r0), (.int p1), (.ref r2)] 8)) t := by
    intro t kt
    refine pre7 _ ?_
    show Steps p.tables e below (T2.setTop (mkF m 130 #[rv r0, iv p1, rv r2, iv w, .val (.long (w.toInt64)), .second, .unset, .unset] [(.ref r0), (.long (w.toInt64))])) _
    refine st8 _ ?_
    show Steps p.tables e below (T8.setTop (mkF m 133 #[rv r0, iv p1, rv r2, iv w, .val (.long (w.toInt64)), .second, .unset, .unset] [(.int en), (.long (w.toInt64))])) _
    refine XS.aloadN X8.here hx rfl (hb hby d8_133) rfl rfl ?_
    exact kt
  obtain ⟨T10, X10, e10, st10⟩ := getF X8 hx hZ hown (host := "") (Or.inl (hw _ (List.mem_of_getElem? (i := 19) rfl))) Via.refl e8 Fp_2 (g := (mkF m 134 #[rv r0, iv p1, rv r2, iv w, .val (.long (w.toInt64)), .second, .unset, .unset] [(.ref r0), (.int en), (.long (w.toInt64))])) rfl rfl (hb hby d8_134)
  have pre12 : ∀ t, Steps p.tables e below (T10.setTop (mkF m 140 #[rv r0, iv p1, rv r2, iv w, .val (.long (w.toInt64)), .second, .unset, .unset] [(.int (lcmpW (w.toInt64) ((en - (8 : Int32)).toInt64)))])) t → Steps p.tables e below (s₁.setTop (entryFrame m #[(.ref r0), (.int p1), (.ref r2)] 8)) t := by
    intro t kt
    refine pre9 _ ?_
    show Steps p.tables e below (T8.setTop (mkF m 134 #[rv r0, iv p1, rv r2, iv w, .val (.long (w.toInt64)), .second, .unset, .unset] [(.ref r0), (.int en), (.long (w.toInt64))])) _
    refine st10 _ ?_
    show Steps p.tables e below (T10.setTop (mkF m 137 #[rv r0, iv p1, rv r2, iv w, .val (.long (w.toInt64)), .second, .unset, .unset] [(.int (8 : Int32)), (.int en), (.long (w.toInt64))])) _
    refine XS.isub X10.here hx rfl (hb hby d8_137) rfl ?_
    refine XS.i2l X10.here hx rfl (hb hby d8_138) rfl ?_
    refine XS.lcmp X10.here hx rfl (hb hby d8_139) rfl ?_
    exact kt
  have hc140_11 : ¬ ((0 : Int32) < (lcmpW (w.toInt64) ((en - (8 : Int32)).toInt64))) := hfit
  have pre13 : ∀ t, Steps p.tables e below (T10.setTop (mkF m 197 #[rv r0, iv p1, rv r2, iv w, .val (.long (w.toInt64)), .second, .unset, .unset] [(.int w)])) t → Steps p.tables e below (s₁.setTop (entryFrame m #[(.ref r0), (.int p1), (.ref r2)] 8)) t := by
    intro t kt
    refine pre12 _ ?_
    show Steps p.tables e below (T10.setTop (mkF m 140 #[rv r0, iv p1, rv r2, iv w, .val (.long (w.toInt64)), .second, .unset, .unset] [(.int (lcmpW (w.toInt64) ((en - (8 : Int32)).toInt64)))])) _
    refine XS.ifYes X10.here hx rfl (pc0 := 140) (pc' := 194) rfl (hb hby d8_140) rfl ((if0 _ _).trans (flt hc140_11).2.2.2) (by decide) (by decide) ?_
    refine XS.lload X10.here hx rfl (hb hby d8_194) rfl ?_
    refine XS.l2i X10.here hx rfl (hb hby d8_196) rfl ?_
    show Steps p.tables e below (T10.setTop (mkF m 197 #[rv r0, iv p1, rv r2, iv w, .val (.long (w.toInt64)), .second, .unset, .unset] [(.int ((w.toInt64).toInt32))])) _
    rw [show ((w.toInt64).toInt32) = w from (Int32.toInt32_toInt64 w)]
    exact kt
  obtain ⟨fs, hr, hrun, hended, hW, hsame⟩ := X10.leave (v := some (.int w)) (fun h => by rw [Bd.returns] at h; cases h)
  refine ⟨_, _, pre13 _ ?_, hrun, hended, _, _, rfl, ?_, ⟨_, rfl⟩, hW, hsame.mono (by decide) (by decide)⟩
  · show Steps p.tables e below (T10.setTop (mkF m 197 #[rv r0, iv p1, rv r2, iv w, .val (.long (w.toInt64)), .second, .unset, .unset] [(.int w)])) _
    exact retI X10 hx Bd.returns (hb hby d8_197) hr
  · show Q8i7 Z r0 p1 r2 ab kc dd0 dd1 dd2 dd3 dd4 dd5 dd6 dd7 en w h0 n0 _ T10.heap _
    rw [e10]
    exact ⟨rfl, N2, K2, Fb_2, Fp_2, Fe_2⟩
theorem d6_0 : decode prog_10_method_20_code 0 = .ok (.aload_n 0, 1) := by decide +kernel
theorem d6_1 : decode prog_10_method_20_code 1 = .ok (.getfield 16, 3) := by decide +kernel
theorem d6_4 : decode prog_10_method_20_code 4 = .ok (.istore_n 3, 1) := by decide +kernel
theorem d6_5 : decode prog_10_method_20_code 5 = .ok (.aload_n 0, 1) := by decide +kernel
theorem d6_6 : decode prog_10_method_20_code 6 = .ok (.iload_n 3, 1) := by decide +kernel
theorem d6_7 : decode prog_10_method_20_code 7 = .ok (.aload_n 2, 1) := by decide +kernel
theorem d6_8 : decode prog_10_method_20_code 8 = .ok (.invokevirtual 48, 3) := by decide +kernel
theorem d6_11 : decode prog_10_method_20_code 11 = .ok (.istore 4, 2) := by decide +kernel
theorem d6_13 : decode prog_10_method_20_code 13 = .ok (.iload 4, 2) := by decide +kernel
theorem d6_15 : decode prog_10_method_20_code 15 = .ok (.iload_n 1, 1) := by decide +kernel
theorem d6_16 : decode prog_10_method_20_code 16 = .ok (.if_icmp .eq 39, 3) := by decide +kernel
theorem d6_55 : decode prog_10_method_20_code 55 = .ok (.aload_n 0, 1) := by decide +kernel
theorem d6_56 : decode prog_10_method_20_code 56 = .ok (.iload_n 3, 1) := by decide +kernel
theorem d6_57 : decode prog_10_method_20_code 57 = .ok (.aload_n 2, 1) := by decide +kernel
theorem d6_58 : decode prog_10_method_20_code 58 = .ok (.invokevirtual 43, 3) := by decide +kernel
theorem d6_61 : decode prog_10_method_20_code 61 = .ok (.ireturn, 1) := by decide +kernel
theorem ef_6 (m : MethodId) (x0 : Addr) (x1 : Int32) (x2 : Addr) : entryFrame m #[(.ref x0), (.int x1), (.ref x2)] 5 = mkF m 0 #[.val (.ref x0), .val (.int x1), .val (.ref x2), .unset, .unset] [] := by first | (simp [entryFrame, mkF, argsToLocals, Value.category]; done) | rfl
def Q6 (Z : State) (r0 : Addr) (r2 : Addr) (ab : Addr) (kc : ClassId) (dd0 : Int32) (dd1 : Int32) (dd2 : Int32) (dd3 : Int32) (dd4 : Int32) (dd5 : Int32) (dd6 : Int32) (dd7 : Int32) (w : Int32) (h0 : Heap) (n0 : Nat) (v : Option Value) (h : Heap) (L : List Loc) : Prop := v = some (.int w) ∧ Fr n0 L ∧ Keep h0 h [r0] ∧ Fld Z h r0 "com/example/fair_witness/fairwitness/attestation/DerReader" "bytes" "[B" (.ref ab) ∧ Fld Z h r0 "com/example/fair_witness/fairwitness/attestation/DerReader" "position" "I" (.int (2 : Int32)) ∧ Fld Z h r0 "com/example/fair_witness/fairwitness/attestation/DerReader" "end" "I" (.int (8 : Int32))
set_option maxRecDepth 65536 in
set_option maxHeartbeats 40000000 in
theorem rm6 (l : Launch) (Z : State) (a0 : Array Value) (hw : ∀ d ∈ tables_1, d.before a0 Z = true) (ws : List Jvm.Cond) (r0 : Addr) (r2 : Addr) (ab : Addr) (kc : ClassId) (dd0 : Int32) (dd1 : Int32) (dd2 : Int32) (dd3 : Int32) (dd4 : Int32) (dd5 : Int32) (dd6 : Int32) (dd7 : Int32) (w : Int32) (h0 : Heap) (n0 : Nat) (Z0 : n0 ≤ h0.size) (F_bytes_r0 : Fld Z h0 r0 "com/example/fair_witness/fairwitness/attestation/DerReader" "bytes" "[B" (.ref ab)) (F_position_r0 : Fld Z h0 r0 "com/example/fair_witness/fairwitness/attestation/DerReader" "position" "I" (.int (0 : Int32))) (F_end_r0 : Fld Z h0 r0 "com/example/fair_witness/fairwitness/attestation/DerReader" "end" "I" (.int (8 : Int32))) (E_r0 : Exa Z h0 r0 "com/example/fair_witness/fairwitness/attestation/DerReader") (g_r0 : n0 ≤ r0) (V_ab : Arv Z h0 ab kc .byte (8 : Int32) [(.int dd0), (.int dd1), (.int dd2), (.int dd3), (.int dd4), (.int dd5), (.int dd6), (.int dd7)] (.int (0 : Int32))) (E_ab : Exa Z h0 ab "[B") (hv0 : (dd0 &&& (255 : Int32)) = (48 : Int32)) (hv1 : (dd1 &&& (255 : Int32)) = w) (hne : ¬ (w = (128 : Int32))) (hle : ¬ ((128 : Int32) < w)) (hfit : ¬ ((0 : Int32) < (lcmpW (w.toInt64) (((8 : Int32) - (2 : Int32)).toInt64)))) :
    MetFree l (⟨"com/example/fair_witness/fairwitness/attestation/DerReader", "readHeader", "(ILjava/lang/String;)I"⟩ : MethodName) (head1 (Jvm.Cond.code (⟨"com/example/fair_witness/fairwitness/attestation/DerReader", "readHeader", "(ILjava/lang/String;)I"⟩ : MethodName) prog_10_method_20_code 5 (some .int) :: ws) ({ frames := 2, cells := 0, slots := 0, locals := 33 } : Room)) (fun a U => a = #[(.ref r0), (.int (48 : Int32)), (.ref r2)] ∧ Z.Warmed39 U.vm ∧ U.heap = h0) (fun _ _ _ _ _ => True) (fun _ U o U' => ∃ v L, o = .returned v ∧ Q6 Z r0 r2 ab kc dd0 dd1 dd2 dd3 dd4 dd5 dd6 dd7 w h0 n0 v U'.heap L ∧ FrameEnd U o U' L ({ frames := 2, cells := 0, slots := 0, locals := 33 } : Room).cells ({ frames := 2, cells := 0, slots := 0, locals := 33 } : Room).slots) := by
  refine MetFree.of_bodySF (plainFor_of_name pn1) hisR ?_
  intro p e s m args below meth c s₁ Bd hml0 hP hK
  obtain ⟨rfl, hZ, hh⟩ := hP
  have hx := Bd.exec
  have hby := Bd.bytes
  have hml : c.maxLocals = 5 := hml0
  have hown : s.vm.findClass "com/example/fair_witness/fairwitness/attestation/DerReader" = some m.cls := findClass_of_methodNamed Bd.named
  have hnm := (name_of_methodNamed Bd.named Bd.method).1
  have X0 : Stand p l e ({ frames := 2, cells := 0, slots := 0, locals := 33 } : Room) s m #[(.ref r0), (.int (48 : Int32)), (.ref r2)] below meth c s₁ [] 0 0 := Stand.of_body Bd
  have e0 : s₁.heap = h0 := by rw [← hh, Bd.state]; rfl
  have N0 := Fr.nil n0
  have pre0 : ∀ t, Steps p.tables e below (s₁.setTop (mkF m 0 #[rv r0, iv (48 : Int32), rv r2, .unset, .unset] [])) t → Steps p.tables e below (s₁.setTop (entryFrame m #[(.ref r0), (.int (48 : Int32)), (.ref r2)] 5)) t := fun t k => castTop (ef_6 m r0 (48 : Int32) r2) k
  have pre1 : ∀ t, Steps p.tables e below (s₁.setTop (mkF m 1 #[rv r0, iv (48 : Int32), rv r2, .unset, .unset] [(.ref r0)])) t → Steps p.tables e below (s₁.setTop (entryFrame m #[(.ref r0), (.int (48 : Int32)), (.ref r2)] 5)) t := by
    intro t kt
    refine pre0 _ ?_
    show Steps p.tables e below (s₁.setTop (mkF m 0 #[rv r0, iv (48 : Int32), rv r2, .unset, .unset] [])) _
    refine XS.aloadN X0.here hx rfl (hb hby d6_0) rfl rfl ?_
    exact kt
  obtain ⟨T2, X2, e2, st2⟩ := getF X0 hx hZ hown (host := "") (Or.inl (hw _ (List.mem_of_getElem? (i := 19) rfl))) Via.refl e0 F_position_r0 (g := (mkF m 1 #[rv r0, iv (48 : Int32), rv r2, .unset, .unset] [(.ref r0)])) rfl rfl (hb hby d6_1)
  have pre3 : ∀ t, Steps p.tables e below (T2.setTop (mkF m 8 #[rv r0, iv (48 : Int32), rv r2, iv (0 : Int32), .unset] [(.ref r2), (.int (0 : Int32)), (.ref r0)])) t → Steps p.tables e below (s₁.setTop (entryFrame m #[(.ref r0), (.int (48 : Int32)), (.ref r2)] 5)) t := by
    intro t kt
    refine pre1 _ ?_
    show Steps p.tables e below (s₁.setTop (mkF m 1 #[rv r0, iv (48 : Int32), rv r2, .unset, .unset] [(.ref r0)])) _
    refine st2 _ ?_
    show Steps p.tables e below (T2.setTop (mkF m 4 #[rv r0, iv (48 : Int32), rv r2, .unset, .unset] [(.int (0 : Int32))])) _
    refine XS.istoreN X2.here hx rfl (hb hby d6_4) rfl (l' := #[rv r0, iv (48 : Int32), rv r2, iv (0 : Int32), .unset]) rfl ?_
    refine XS.aloadN X2.here hx rfl (hb hby d6_5) rfl rfl ?_
    refine XS.iloadN X2.here hx rfl (hb hby d6_6) rfl ?_
    refine XS.aloadN X2.here hx rfl (hb hby d6_7) rfl rfl ?_
    exact kt
  obtain ⟨cq4, q4, q4'⟩ := E_r0.cell
  obtain ⟨_, _, ⟨T4, L4, k4, n4⟩, -, X4, ⟨Lc4, hQ4, l4, y4, z4⟩, st4⟩ := X2.privateBack hx (y := (⟨"com/example/fair_witness/fairwitness/attestation/DerReader", "nextByte", "(ILjava/lang/String;)I"⟩ : MethodName)) hown (mvT hZ (hw _ (List.mem_of_getElem? (i := 39) rfl))) (mvT hZ (hw _ (List.mem_of_getElem? (i := 40) rfl))) (own_selp (y := (⟨"com/example/fair_witness/fairwitness/attestation/DerReader", "nextByte", "(ILjava/lang/String;)I"⟩ : MethodName)) (mvT hZ (hw _ (List.mem_of_getElem? (i := 6) rfl))) (Cond.privateMethod_at (mvP hZ (hw _ (List.mem_of_getElem? (i := 41) rfl)) (args := #[]))) (mvT hZ (hw _ (List.mem_of_getElem? (i := 40) rfl))) (by decide)) (Cond.privateMethod_at (mvP hZ (hw _ (List.mem_of_getElem? (i := 41) rfl)) (args := #[]))) (mvT hZ (hw _ (List.mem_of_getElem? (i := 42) rfl))) (by decide) (backOf (W := 0) (rm7i0 l Z a0 hw [] r0 (0 : Int32) r2 ab kc dd0 dd1 dd2 dd3 dd4 dd5 dd6 dd7 (8 : Int32) (48 : Int32) h0 n0 (Nat.le_trans Z0 (Keep.refl h0 [r0]).1) F_bytes_r0 F_position_r0 F_end_r0 E_r0 g_r0 V_ab E_ab (by decide) hv0) hZ (hw _ (List.mem_of_getElem? (i := 42) rfl)) (hw _ (List.mem_of_getElem? (i := 7) rfl)) (by decide) (by decide)) (g := (mkF m 8 #[rv r0, iv (48 : Int32), rv r2, iv (0 : Int32), .unset] [(.ref r2), (.int (0 : Int32)), (.ref r0)])) rfl (by rw [hml]; rfl) (Steps.refl _) (a := r0) (by rw [e2]; exact q4) q4' (argsL := [(.int (0 : Int32)), (.ref r2)]) (rest := []) (lenOf pd3 rfl) rfl (by show 2 * 0 + _ ≤ _; exact Nat.le_of_eq rfl) (hb hby d6_8) (fun _ _ => ⟨rfl, e2, (by decide : 0 + 0 ≤ _), (by decide : 0 + 0 ≤ _)⟩)
  dsimp only [Pt.U, Pt.locs, Pt.cells, Pt.slots] at X4 l4 y4 z4 st4 hQ4
  subst l4 y4 z4
  obtain ⟨rfl, N4q, Kc4, Fb_4, Fp_4, Fe_4⟩ := hQ4
  have N4 := Fr.app N0 N4q
  have K4 : Keep h0 T4.heap [r0] := (Keep.refl h0 [r0]).trans Kc4 (allS (Or.inl (List.mem_of_getElem? (i := 0) rfl)) all0)
  have pre5 : ∀ t, Steps p.tables e below (T4.setTop (mkF m 58 #[rv r0, iv (48 : Int32), rv r2, iv (0 : Int32), iv (48 : Int32)] [(.ref r2), (.int (0 : Int32)), (.ref r0)])) t → Steps p.tables e below (s₁.setTop (entryFrame m #[(.ref r0), (.int (48 : Int32)), (.ref r2)] 5)) t := by
    intro t kt
    refine pre3 _ ?_
    show Steps p.tables e below (T2.setTop (mkF m 8 #[rv r0, iv (48 : Int32), rv r2, iv (0 : Int32), .unset] [(.ref r2), (.int (0 : Int32)), (.ref r0)])) _
    refine st4.trans ?_
    show Steps p.tables e below (T4.setTop (mkF m 11 #[rv r0, iv (48 : Int32), rv r2, iv (0 : Int32), .unset] [(.int (48 : Int32))])) _
    refine XS.istore X4.here hx rfl (hb hby d6_11) rfl (l' := #[rv r0, iv (48 : Int32), rv r2, iv (0 : Int32), iv (48 : Int32)]) rfl ?_
    refine XS.iload X4.here hx rfl (hb hby d6_13) rfl ?_
    refine XS.iloadN X4.here hx rfl (hb hby d6_15) rfl ?_
    refine XS.icmpYes X4.here hx rfl (pc0 := 16) (pc' := 55) rfl (hb hby d6_16) rfl (teq (by decide)).1 (by decide) (by decide) ?_
    refine XS.aloadN X4.here hx rfl (hb hby d6_55) rfl rfl ?_
    refine XS.iloadN X4.here hx rfl (hb hby d6_56) rfl ?_
    refine XS.aloadN X4.here hx rfl (hb hby d6_57) rfl rfl ?_
    exact kt
  obtain ⟨cq6, q6, q6'⟩ := (E_r0.keep Kc4).cell
  obtain ⟨_, _, ⟨T6, L6, k6, n6⟩, -, X6, ⟨Lc6, hQ6, l6, y6, z6⟩, st6⟩ := X4.privateBack hx (y := (⟨"com/example/fair_witness/fairwitness/attestation/DerReader", "readLength", "(ILjava/lang/String;)I"⟩ : MethodName)) hown (mvT hZ (hw _ (List.mem_of_getElem? (i := 43) rfl))) (mvT hZ (hw _ (List.mem_of_getElem? (i := 44) rfl))) (own_selp (y := (⟨"com/example/fair_witness/fairwitness/attestation/DerReader", "readLength", "(ILjava/lang/String;)I"⟩ : MethodName)) (mvT hZ (hw _ (List.mem_of_getElem? (i := 6) rfl))) (Cond.privateMethod_at (mvP hZ (hw _ (List.mem_of_getElem? (i := 45) rfl)) (args := #[]))) (mvT hZ (hw _ (List.mem_of_getElem? (i := 44) rfl))) (by decide)) (Cond.privateMethod_at (mvP hZ (hw _ (List.mem_of_getElem? (i := 45) rfl)) (args := #[]))) (mvT hZ (hw _ (List.mem_of_getElem? (i := 46) rfl))) (by decide) (backOf (W := 0) (rm8i1 l Z a0 hw [] r0 (0 : Int32) r2 ab kc dd0 dd1 dd2 dd3 dd4 dd5 dd6 dd7 (8 : Int32) w T4.heap n0 (Nat.le_trans Z0 K4.1) Fb_4 Fp_4 Fe_4 (E_r0.keep Kc4) g_r0 (V_ab.keep Kc4 (ninS (Exa.ne (E_ab.keep Kc4) (E_r0.keep Kc4) (by decide)) nin0)) (E_ab.keep Kc4) (by decide) hv1 hne hle hfit) hZ (hw _ (List.mem_of_getElem? (i := 46) rfl)) (hw _ (List.mem_of_getElem? (i := 7) rfl)) (by decide) (by decide)) (g := (mkF m 58 #[rv r0, iv (48 : Int32), rv r2, iv (0 : Int32), iv (48 : Int32)] [(.ref r2), (.int (0 : Int32)), (.ref r0)])) rfl (by rw [hml]; rfl) (Steps.refl _) (a := r0) q6 q6' (argsL := [(.int (0 : Int32)), (.ref r2)]) (rest := []) (lenOf pd3 rfl) rfl (by show 2 * 0 + _ ≤ _; exact Nat.le_of_eq rfl) (hb hby d6_58) (fun _ _ => ⟨rfl, rfl, (by decide : 0 + 0 ≤ _), (by decide : 0 + 0 ≤ _)⟩)
  dsimp only [Pt.U, Pt.locs, Pt.cells, Pt.slots] at X6 l6 y6 z6 st6 hQ6
  subst l6 y6 z6
  obtain ⟨rfl, N6q, Kc6, Fb_6, Fp_6, Fe_6⟩ := hQ6
  have N6 := Fr.app N4 N6q
  have K6 : Keep h0 T6.heap [r0] := K4.trans Kc6 (allS (Or.inl (List.mem_of_getElem? (i := 0) rfl)) all0)
  have pre7 : ∀ t, Steps p.tables e below (T6.setTop (mkF m 61 #[rv r0, iv (48 : Int32), rv r2, iv (0 : Int32), iv (48 : Int32)] [(.int w)])) t → Steps p.tables e below (s₁.setTop (entryFrame m #[(.ref r0), (.int (48 : Int32)), (.ref r2)] 5)) t := by
    intro t kt
    refine pre5 _ ?_
    show Steps p.tables e below (T4.setTop (mkF m 58 #[rv r0, iv (48 : Int32), rv r2, iv (0 : Int32), iv (48 : Int32)] [(.ref r2), (.int (0 : Int32)), (.ref r0)])) _
    refine st6.trans ?_
    exact kt
  obtain ⟨fs, hr, hrun, hended, hW, hsame⟩ := X6.leave (v := some (.int w)) (fun h => by rw [Bd.returns] at h; cases h)
  refine ⟨_, _, pre7 _ ?_, hrun, hended, _, _, rfl, ?_, ⟨_, rfl⟩, hW, hsame.mono (by decide) (by decide)⟩
  · show Steps p.tables e below (T6.setTop (mkF m 61 #[rv r0, iv (48 : Int32), rv r2, iv (0 : Int32), iv (48 : Int32)] [(.int w)])) _
    exact retI X6 hx Bd.returns (hb hby d6_61) hr
  · show Q6 Z r0 r2 ab kc dd0 dd1 dd2 dd3 dd4 dd5 dd6 dd7 w h0 n0 _ T6.heap _
    exact ⟨rfl, N6, K6, Fb_6, Fp_6, Fe_6⟩
theorem d9_0 : decode prog_10_method_18_code 0 = .ok (.new 2, 3) := by decide +kernel
theorem d9_3 : decode prog_10_method_18_code 3 = .ok (.dup, 1) := by decide +kernel
theorem d9_4 : decode prog_10_method_18_code 4 = .ok (.aload_n 0, 1) := by decide +kernel
theorem d9_5 : decode prog_10_method_18_code 5 = .ok (.getfield 12, 3) := by decide +kernel
theorem d9_8 : decode prog_10_method_18_code 8 = .ok (.aload_n 0, 1) := by decide +kernel
theorem d9_9 : decode prog_10_method_18_code 9 = .ok (.getfield 16, 3) := by decide +kernel
theorem d9_12 : decode prog_10_method_18_code 12 = .ok (.aload_n 0, 1) := by decide +kernel
theorem d9_13 : decode prog_10_method_18_code 13 = .ok (.getfield 16, 3) := by decide +kernel
theorem d9_16 : decode prog_10_method_18_code 16 = .ok (.iload_n 1, 1) := by decide +kernel
theorem d9_17 : decode prog_10_method_18_code 17 = .ok (.iadd, 1) := by decide +kernel
theorem d9_18 : decode prog_10_method_18_code 18 = .ok (.invokespecial 1, 3) := by decide +kernel
theorem d9_21 : decode prog_10_method_18_code 21 = .ok (.astore_n 2, 1) := by decide +kernel
theorem d9_22 : decode prog_10_method_18_code 22 = .ok (.aload_n 0, 1) := by decide +kernel
theorem d9_23 : decode prog_10_method_18_code 23 = .ok (.dup, 1) := by decide +kernel
theorem d9_24 : decode prog_10_method_18_code 24 = .ok (.getfield 16, 3) := by decide +kernel
theorem d9_27 : decode prog_10_method_18_code 27 = .ok (.iload_n 1, 1) := by decide +kernel
theorem d9_28 : decode prog_10_method_18_code 28 = .ok (.iadd, 1) := by decide +kernel
theorem d9_29 : decode prog_10_method_18_code 29 = .ok (.putfield 16, 3) := by decide +kernel
theorem d9_32 : decode prog_10_method_18_code 32 = .ok (.aload_n 2, 1) := by decide +kernel
theorem d9_33 : decode prog_10_method_18_code 33 = .ok (.areturn, 1) := by decide +kernel
theorem ef_9 (m : MethodId) (x0 : Addr) (x1 : Int32) : entryFrame m #[(.ref x0), (.int x1)] 3 = mkF m 0 #[.val (.ref x0), .val (.int x1), .unset] [] := by first | (simp [entryFrame, mkF, argsToLocals, Value.category]; done) | rfl
def Q9 (Z : State) (r0 : Addr) (p1 : Int32) (ab : Addr) (z : Int32) (h0 : Heap) (n0 : Nat) (v : Option Value) (h : Heap) (L : List Loc) : Prop := ∃ x, v = some (.ref x) ∧ Fr n0 L ∧ Keep h0 h [r0] ∧ h0.size ≤ x ∧ Fld Z h r0 "com/example/fair_witness/fairwitness/attestation/DerReader" "bytes" "[B" (.ref ab) ∧ Fld Z h r0 "com/example/fair_witness/fairwitness/attestation/DerReader" "position" "I" (.int z) ∧ Fld Z h r0 "com/example/fair_witness/fairwitness/attestation/DerReader" "end" "I" (.int (8 : Int32)) ∧ Exa Z h x "com/example/fair_witness/fairwitness/attestation/DerReader" ∧ Fld Z h x "com/example/fair_witness/fairwitness/attestation/DerReader" "bytes" "[B" (.ref ab) ∧ Fld Z h x "com/example/fair_witness/fairwitness/attestation/DerReader" "position" "I" (.int (2 : Int32)) ∧ Fld Z h x "com/example/fair_witness/fairwitness/attestation/DerReader" "end" "I" (.int z)
set_option maxRecDepth 65536 in
set_option maxHeartbeats 40000000 in
theorem rm9 (l : Launch) (Z : State) (a0 : Array Value) (hw : ∀ d ∈ tables_1, d.before a0 Z = true) (ws : List Jvm.Cond) (r0 : Addr) (p1 : Int32) (ab : Addr) (z : Int32) (h0 : Heap) (n0 : Nat) (Z0 : n0 ≤ h0.size) (F_bytes_r0 : Fld Z h0 r0 "com/example/fair_witness/fairwitness/attestation/DerReader" "bytes" "[B" (.ref ab)) (F_position_r0 : Fld Z h0 r0 "com/example/fair_witness/fairwitness/attestation/DerReader" "position" "I" (.int (2 : Int32))) (F_end_r0 : Fld Z h0 r0 "com/example/fair_witness/fairwitness/attestation/DerReader" "end" "I" (.int (8 : Int32))) (E_r0 : Exa Z h0 r0 "com/example/fair_witness/fairwitness/attestation/DerReader") (g_r0 : n0 ≤ r0) (hz : ((2 : Int32) + p1) = z) :
    MetFree l (⟨"com/example/fair_witness/fairwitness/attestation/DerReader", "contentReader", "(I)Lcom/example/fair_witness/fairwitness/attestation/DerReader;"⟩ : MethodName) (head1 (Jvm.Cond.code (⟨"com/example/fair_witness/fairwitness/attestation/DerReader", "contentReader", "(I)Lcom/example/fair_witness/fairwitness/attestation/DerReader;"⟩ : MethodName) prog_10_method_18_code 3 (some (.object "com/example/fair_witness/fairwitness/attestation/DerReader")) :: ws) ({ frames := 2, cells := 1, slots := 3, locals := 28 } : Room)) (fun a U => a = #[(.ref r0), (.int p1)] ∧ Z.Warmed39 U.vm ∧ U.heap = h0) (fun _ _ _ _ _ => True) (fun _ U o U' => ∃ v L, o = .returned v ∧ Q9 Z r0 p1 ab z h0 n0 v U'.heap L ∧ FrameEnd U o U' L ({ frames := 2, cells := 1, slots := 3, locals := 28 } : Room).cells ({ frames := 2, cells := 1, slots := 3, locals := 28 } : Room).slots) := by
  refine MetFree.of_bodySF (plainFor_of_name pn1) hisR ?_
  intro p e s m args below meth c s₁ Bd hml0 hP hK
  obtain ⟨rfl, hZ, hh⟩ := hP
  have hx := Bd.exec
  have hby := Bd.bytes
  have hml : c.maxLocals = 3 := hml0
  have hown : s.vm.findClass "com/example/fair_witness/fairwitness/attestation/DerReader" = some m.cls := findClass_of_methodNamed Bd.named
  have hnm := (name_of_methodNamed Bd.named Bd.method).1
  have X0 : Stand p l e ({ frames := 2, cells := 1, slots := 3, locals := 28 } : Room) s m #[(.ref r0), (.int p1)] below meth c s₁ [] 0 0 := Stand.of_body Bd
  have e0 : s₁.heap = h0 := by rw [← hh, Bd.state]; rfl
  have N0 := Fr.nil n0
  have pre0 : ∀ t, Steps p.tables e below (s₁.setTop (mkF m 0 #[rv r0, iv p1, .unset] [])) t → Steps p.tables e below (s₁.setTop (entryFrame m #[(.ref r0), (.int p1)] 3)) t := fun t k => castTop (ef_9 m r0 p1) k
  obtain ⟨T1, h1, X1, e1, E1, A1, D1, -, st1⟩ := newO X0 hx hZ hown (hw _ (List.mem_of_getElem? (i := 51) rfl)) (hw _ (List.mem_of_getElem? (i := 6) rfl)) (hw _ (List.mem_of_getElem? (i := 7) rfl)) e0 (g := (mkF m 0 #[rv r0, iv p1, .unset] [])) rfl (hb hby d9_0) (by decide) (by decide)
  obtain ⟨b1, g1⟩ : ∃ z, z = h0.size := ⟨_, rfl⟩
  rw [← g1] at A1 D1 st1
  have g_b1 : n0 ≤ b1 := Nat.le_trans (Nat.le_trans Z0 (Keep.refl h0 [r0]).1) (Nat.le_of_eq g1.symm)
  have sz_b1 : h0.size ≤ b1 := Nat.le_trans (Keep.refl h0 [r0]).1 (Nat.le_of_eq g1.symm)
  have F_bytes_b1 : Fld Z h1 b1 "com/example/fair_witness/fairwitness/attestation/DerReader" "bytes" "[B" .null := D1 (Or.inr (hw _ (List.mem_of_getElem? (i := 18) rfl))) (ty := (.array .byte)) (by decide)
  have F_position_b1 : Fld Z h1 b1 "com/example/fair_witness/fairwitness/attestation/DerReader" "position" "I" (.int (0 : Int32)) := D1 (Or.inl (hw _ (List.mem_of_getElem? (i := 20) rfl))) (ty := .int) (by decide)
  have F_end_b1 : Fld Z h1 b1 "com/example/fair_witness/fairwitness/attestation/DerReader" "end" "I" (.int (0 : Int32)) := D1 (Or.inr (hw _ (List.mem_of_getElem? (i := 22) rfl))) (ty := .int) (by decide)
  have K1 : Keep h0 h1 [r0] := (Keep.refl h0 [r0]).ext E1
  have pre2 : ∀ t, Steps p.tables e below (T1.setTop (mkF m 5 #[rv r0, iv p1, .unset] [(.ref r0), (.ref b1), (.ref b1)])) t → Steps p.tables e below (s₁.setTop (entryFrame m #[(.ref r0), (.int p1)] 3)) t := by
    intro t kt
    refine pre0 _ ?_
    show Steps p.tables e below (s₁.setTop (mkF m 0 #[rv r0, iv p1, .unset] [])) _
    refine st1 _ ?_
    show Steps p.tables e below (T1.setTop (mkF m 3 #[rv r0, iv p1, .unset] [(.ref b1)])) _
    refine XS.dup X1.here hx rfl (hb hby d9_3) rfl rfl ?_
    refine XS.aloadN X1.here hx rfl (hb hby d9_4) rfl rfl ?_
    exact kt
  obtain ⟨T3, X3, e3, st3⟩ := getF X1 hx hZ hown (host := "") (Or.inl (hw _ (List.mem_of_getElem? (i := 17) rfl))) Via.refl e1 (F_bytes_r0.ext E1) (g := (mkF m 5 #[rv r0, iv p1, .unset] [(.ref r0), (.ref b1), (.ref b1)])) rfl rfl (hb hby d9_5)
  have pre4 : ∀ t, Steps p.tables e below (T3.setTop (mkF m 9 #[rv r0, iv p1, .unset] [(.ref r0), (.ref ab), (.ref b1), (.ref b1)])) t → Steps p.tables e below (s₁.setTop (entryFrame m #[(.ref r0), (.int p1)] 3)) t := by
    intro t kt
    refine pre2 _ ?_
    show Steps p.tables e below (T1.setTop (mkF m 5 #[rv r0, iv p1, .unset] [(.ref r0), (.ref b1), (.ref b1)])) _
    refine st3 _ ?_
    show Steps p.tables e below (T3.setTop (mkF m 8 #[rv r0, iv p1, .unset] [(.ref ab), (.ref b1), (.ref b1)])) _
    refine XS.aloadN X3.here hx rfl (hb hby d9_8) rfl rfl ?_
    exact kt
  obtain ⟨T5, X5, e5, st5⟩ := getF X3 hx hZ hown (host := "") (Or.inl (hw _ (List.mem_of_getElem? (i := 19) rfl))) Via.refl e3 (F_position_r0.ext E1) (g := (mkF m 9 #[rv r0, iv p1, .unset] [(.ref r0), (.ref ab), (.ref b1), (.ref b1)])) rfl rfl (hb hby d9_9)
  have pre6 : ∀ t, Steps p.tables e below (T5.setTop (mkF m 13 #[rv r0, iv p1, .unset] [(.ref r0), (.int (2 : Int32)), (.ref ab), (.ref b1), (.ref b1)])) t → Steps p.tables e below (s₁.setTop (entryFrame m #[(.ref r0), (.int p1)] 3)) t := by
    intro t kt
    refine pre4 _ ?_
    show Steps p.tables e below (T3.setTop (mkF m 9 #[rv r0, iv p1, .unset] [(.ref r0), (.ref ab), (.ref b1), (.ref b1)])) _
    refine st5 _ ?_
    show Steps p.tables e below (T5.setTop (mkF m 12 #[rv r0, iv p1, .unset] [(.int (2 : Int32)), (.ref ab), (.ref b1), (.ref b1)])) _
    refine XS.aloadN X5.here hx rfl (hb hby d9_12) rfl rfl ?_
    exact kt
  obtain ⟨T7, X7, e7, st7⟩ := getF X5 hx hZ hown (host := "") (Or.inl (hw _ (List.mem_of_getElem? (i := 19) rfl))) Via.refl e5 (F_position_r0.ext E1) (g := (mkF m 13 #[rv r0, iv p1, .unset] [(.ref r0), (.int (2 : Int32)), (.ref ab), (.ref b1), (.ref b1)])) rfl rfl (hb hby d9_13)
  have pre8 : ∀ t, Steps p.tables e below (T7.setTop (mkF m 18 #[rv r0, iv p1, .unset] [(.int z), (.int (2 : Int32)), (.ref ab), (.ref b1), (.ref b1)])) t → Steps p.tables e below (s₁.setTop (entryFrame m #[(.ref r0), (.int p1)] 3)) t := by
    intro t kt
    refine pre6 _ ?_
    show Steps p.tables e below (T5.setTop (mkF m 13 #[rv r0, iv p1, .unset] [(.ref r0), (.int (2 : Int32)), (.ref ab), (.ref b1), (.ref b1)])) _
    refine st7 _ ?_
    show Steps p.tables e below (T7.setTop (mkF m 16 #[rv r0, iv p1, .unset] [(.int (2 : Int32)), (.int (2 : Int32)), (.ref ab), (.ref b1), (.ref b1)])) _
    refine XS.iloadN X7.here hx rfl (hb hby d9_16) rfl ?_
    refine XS.iadd X7.here hx rfl (hb hby d9_17) rfl ?_
    show Steps p.tables e below (T7.setTop (mkF m 18 #[rv r0, iv p1, .unset] [(.int ((2 : Int32) + p1)), (.int (2 : Int32)), (.ref ab), (.ref b1), (.ref b1)])) _
    rw [show ((2 : Int32) + p1) = z from hz]
    exact kt
  obtain ⟨_, _, ⟨T9, L9, k9, n9⟩, -, X9, ⟨Lc9, hQ9, l9, y9, z9⟩, st9⟩ := X7.specialBack hx (y := (⟨"com/example/fair_witness/fairwitness/attestation/DerReader", "<init>", "([BII)V"⟩ : MethodName)) rfl hown (mvT hZ (hw _ (List.mem_of_getElem? (i := 11) rfl))) (mvT hZ (hw _ (List.mem_of_getElem? (i := 12) rfl))) (mvT hZ (hw _ (List.mem_of_getElem? (i := 13) rfl))) (by decide) (backOf (W := 1) (rm3 l Z a0 hw [] b1 ab (2 : Int32) z h1 n0 (Nat.le_trans Z0 K1.1) F_bytes_b1 F_position_b1 F_end_b1 A1 g_b1) hZ (hw _ (List.mem_of_getElem? (i := 13) rfl)) (hw _ (List.mem_of_getElem? (i := 7) rfl)) (by decide) (by decide)) (g := (mkF m 18 #[rv r0, iv p1, .unset] [(.int z), (.int (2 : Int32)), (.ref ab), (.ref b1), (.ref b1)])) rfl (by rw [hml]; rfl) (Steps.refl _) (a := b1) (argsL := [(.ref ab), (.int (2 : Int32)), (.int z)]) (rest := [(.ref b1)]) (lenOf pd2 rfl) rfl (by show 2 * 0 + _ ≤ _; exact Nat.le_of_eq rfl) (hb hby d9_18) (fun _ _ => ⟨rfl, e7, (by decide : 1 + 0 ≤ _), (by decide : 3 + 0 ≤ _)⟩)
  dsimp only [Pt.U, Pt.locs, Pt.cells, Pt.slots] at X9 l9 y9 z9 st9 hQ9
  subst l9 y9 z9
  obtain ⟨rfl, N9q, Kc9, Fb_9, Fp_9, Fe_9⟩ := hQ9
  have N9 := Fr.app N0 N9q
  have K9 : Keep h0 T9.heap [r0] := K1.trans Kc9 (allS (Or.inr sz_b1) all0)
  have pre10 : ∀ t, Steps p.tables e below (T9.setTop (mkF m 24 #[rv r0, iv p1, rv b1] [(.ref r0), (.ref r0)])) t → Steps p.tables e below (s₁.setTop (entryFrame m #[(.ref r0), (.int p1)] 3)) t := by
    intro t kt
    refine pre8 _ ?_
    show Steps p.tables e below (T7.setTop (mkF m 18 #[rv r0, iv p1, .unset] [(.int z), (.int (2 : Int32)), (.ref ab), (.ref b1), (.ref b1)])) _
    refine st9.trans ?_
    show Steps p.tables e below (T9.setTop (mkF m 21 #[rv r0, iv p1, .unset] [(.ref b1)])) _
    refine XS.astoreN X9.here hx rfl (hb hby d9_21) rfl rfl (l' := #[rv r0, iv p1, rv b1]) rfl ?_
    refine XS.aloadN X9.here hx rfl (hb hby d9_22) rfl rfl ?_
    refine XS.dup X9.here hx rfl (hb hby d9_23) rfl rfl ?_
    exact kt
  obtain ⟨T11, X11, e11, st11⟩ := getF X9 hx hZ hown (host := "") (Or.inl (hw _ (List.mem_of_getElem? (i := 19) rfl))) Via.refl rfl ((F_position_r0.ext E1).keep Kc9 (ninS (Nat.ne_of_lt (Nat.lt_of_lt_of_le E_r0.lt (Nat.le_of_eq g1.symm))) nin0)) (g := (mkF m 24 #[rv r0, iv p1, rv b1] [(.ref r0), (.ref r0)])) rfl rfl (hb hby d9_24)
  have pre12 : ∀ t, Steps p.tables e below (T11.setTop (mkF m 29 #[rv r0, iv p1, rv b1] [(.int z), (.ref r0)])) t → Steps p.tables e below (s₁.setTop (entryFrame m #[(.ref r0), (.int p1)] 3)) t := by
    intro t kt
    refine pre10 _ ?_
    show Steps p.tables e below (T9.setTop (mkF m 24 #[rv r0, iv p1, rv b1] [(.ref r0), (.ref r0)])) _
    refine st11 _ ?_
    show Steps p.tables e below (T11.setTop (mkF m 27 #[rv r0, iv p1, rv b1] [(.int (2 : Int32)), (.ref r0)])) _
    refine XS.iloadN X11.here hx rfl (hb hby d9_27) rfl ?_
    refine XS.iadd X11.here hx rfl (hb hby d9_28) rfl ?_
    show Steps p.tables e below (T11.setTop (mkF m 29 #[rv r0, iv p1, rv b1] [(.int ((2 : Int32) + p1)), (.ref r0)])) _
    rw [show ((2 : Int32) + p1) = z from hz]
    exact kt
  obtain ⟨T13, h13, X13, e13, W13, st13⟩ := putF X11 hx hZ hown (host := "") (Or.inl (hw _ (List.mem_of_getElem? (i := 19) rfl))) Via.refl e11 ((F_position_r0.ext E1).keep Kc9 (ninS (Nat.ne_of_lt (Nat.lt_of_lt_of_le E_r0.lt (Nat.le_of_eq g1.symm))) nin0)) ((E_r0.ext E1).keep Kc9) (Or.inl (hw _ (List.mem_of_getElem? (i := 20) rfl))) (hw _ (List.mem_of_getElem? (i := 6) rfl)) (ty := .int) (by decide) rfl rfl (g := (mkF m 29 #[rv r0, iv p1, rv b1] [(.int z), (.ref r0)])) rfl rfl (hb hby d9_29)
  have Fw13 : Fld Z h13 r0 "com/example/fair_witness/fairwitness/attestation/DerReader" "position" "I" (.int z) := ((F_position_r0.ext E1).keep Kc9 (ninS (Nat.ne_of_lt (Nat.lt_of_lt_of_le E_r0.lt (Nat.le_of_eq g1.symm))) nin0)).same W13
  have K13 : Keep h0 h13 [r0] := K9.wr W13 (Or.inl (List.mem_of_getElem? (i := 0) rfl))
  have N13 := Fr.snoc X13 N9 g_r0
  have pre14 : ∀ t, Steps p.tables e below (T13.setTop (mkF m 33 #[rv r0, iv p1, rv b1] [(.ref b1)])) t → Steps p.tables e below (s₁.setTop (entryFrame m #[(.ref r0), (.int p1)] 3)) t := by
    intro t kt
    refine pre12 _ ?_
    show Steps p.tables e below (T11.setTop (mkF m 29 #[rv r0, iv p1, rv b1] [(.int z), (.ref r0)])) _
    refine st13 _ ?_
    show Steps p.tables e below (T13.setTop (mkF m 32 #[rv r0, iv p1, rv b1] [])) _
    refine XS.aloadN X13.here hx rfl (hb hby d9_32) rfl rfl ?_
    exact kt
  obtain ⟨fs, hr, hrun, hended, hW, hsame⟩ := X13.leave (v := some (.ref b1)) (fun h => by rw [Bd.returns] at h; cases h)
  refine ⟨_, _, pre14 _ ?_, hrun, hended, _, _, rfl, ?_, ⟨_, rfl⟩, hW, hsame.mono (by decide) (by decide)⟩
  · show Steps p.tables e below (T13.setTop (mkF m 33 #[rv r0, iv p1, rv b1] [(.ref b1)])) _
    jvm_step X13.here [X13.here.top, hx, (hb hby d9_33), X13.method', Bd.returns, Value.isRef, FieldType.isReference]
    first | (intro acts; rw [hr _ acts rfl rfl rfl]) | rw [hr _ _ rfl rfl rfl]
    exact Steps.refl _
  · show Q9 Z r0 p1 ab z h0 n0 _ T13.heap _
    rw [e13]
    exact ⟨b1, rfl, N13, K13, sz_b1, (((F_bytes_r0.ext E1).keep Kc9 (ninS (Nat.ne_of_lt (Nat.lt_of_lt_of_le E_r0.lt (Nat.le_of_eq g1.symm))) nin0)).other W13 (Or.inr (slot_ne (Or.inr (hw _ (List.mem_of_getElem? (i := 18) rfl))) (Or.inl (hw _ (List.mem_of_getElem? (i := 20) rfl))) (by decide) (t := (.array .byte)) (t' := .int) (by decide) (by decide)))), Fw13, (((F_end_r0.ext E1).keep Kc9 (ninS (Nat.ne_of_lt (Nat.lt_of_lt_of_le E_r0.lt (Nat.le_of_eq g1.symm))) nin0)).other W13 (Or.inr (slot_ne (Or.inr (hw _ (List.mem_of_getElem? (i := 22) rfl))) (Or.inl (hw _ (List.mem_of_getElem? (i := 20) rfl))) (by decide) (t := .int) (t' := .int) (by decide) (by decide)))), ((A1.keep Kc9).wr W13), (Fb_9.other W13 (Or.inl (Ne.symm (Nat.ne_of_lt (Nat.lt_of_lt_of_le E_r0.lt (Nat.le_of_eq g1.symm)))))), (Fp_9.other W13 (Or.inl (Ne.symm (Nat.ne_of_lt (Nat.lt_of_lt_of_le E_r0.lt (Nat.le_of_eq g1.symm)))))), (Fe_9.other W13 (Or.inl (Ne.symm (Nat.ne_of_lt (Nat.lt_of_lt_of_le E_r0.lt (Nat.le_of_eq g1.symm))))))⟩
theorem d5_0 : decode prog_10_method_4_code 0 = .ok (.aload_n 0, 1) := by decide +kernel
theorem d5_1 : decode prog_10_method_4_code 1 = .ok (.aload_n 0, 1) := by decide +kernel
theorem d5_2 : decode prog_10_method_4_code 2 = .ok (.bipush 48, 2) := by decide +kernel
theorem d5_4 : decode prog_10_method_4_code 4 = .ok (.ldc 23, 2) := by decide +kernel
theorem d5_6 : decode prog_10_method_4_code 6 = .ok (.invokevirtual 25, 3) := by decide +kernel
theorem pd4 : parseMethodDescriptor "(I)Lcom/example/fair_witness/fairwitness/attestation/DerReader;" = some ⟨[.int], some (.object "com/example/fair_witness/fairwitness/attestation/DerReader")⟩ := by decide +kernel
theorem d5_9 : decode prog_10_method_4_code 9 = .ok (.invokevirtual 29, 3) := by decide +kernel
theorem d5_12 : decode prog_10_method_4_code 12 = .ok (.areturn, 1) := by decide +kernel
theorem ef_5 (m : MethodId) (x0 : Addr) : entryFrame m #[(.ref x0)] 1 = mkF m 0 #[.val (.ref x0)] [] := by first | (simp [entryFrame, mkF, argsToLocals, Value.category]; done) | rfl
def Q5 (Z : State) (r0 : Addr) (ab : Addr) (kc : ClassId) (dd0 : Int32) (dd1 : Int32) (dd2 : Int32) (dd3 : Int32) (dd4 : Int32) (dd5 : Int32) (dd6 : Int32) (dd7 : Int32) (w : Int32) (z : Int32) (h0 : Heap) (n0 : Nat) (v : Option Value) (h : Heap) (L : List Loc) : Prop := ∃ x, v = some (.ref x) ∧ Fr n0 L ∧ Keep h0 h [r0] ∧ h0.size ≤ x ∧ Fld Z h r0 "com/example/fair_witness/fairwitness/attestation/DerReader" "bytes" "[B" (.ref ab) ∧ Fld Z h r0 "com/example/fair_witness/fairwitness/attestation/DerReader" "position" "I" (.int z) ∧ Fld Z h r0 "com/example/fair_witness/fairwitness/attestation/DerReader" "end" "I" (.int (8 : Int32)) ∧ Exa Z h x "com/example/fair_witness/fairwitness/attestation/DerReader" ∧ Fld Z h x "com/example/fair_witness/fairwitness/attestation/DerReader" "bytes" "[B" (.ref ab) ∧ Fld Z h x "com/example/fair_witness/fairwitness/attestation/DerReader" "position" "I" (.int (2 : Int32)) ∧ Fld Z h x "com/example/fair_witness/fairwitness/attestation/DerReader" "end" "I" (.int z)
set_option maxRecDepth 65536 in
set_option maxHeartbeats 40000000 in
theorem rm5 (l : Launch) (Z : State) (a0 : Array Value) (hw : ∀ d ∈ tables_1, d.before a0 Z = true) (ws : List Jvm.Cond) (r0 : Addr) (ab : Addr) (kc : ClassId) (dd0 : Int32) (dd1 : Int32) (dd2 : Int32) (dd3 : Int32) (dd4 : Int32) (dd5 : Int32) (dd6 : Int32) (dd7 : Int32) (w : Int32) (z : Int32) (h0 : Heap) (n0 : Nat) (Z0 : n0 ≤ h0.size) (F_bytes_r0 : Fld Z h0 r0 "com/example/fair_witness/fairwitness/attestation/DerReader" "bytes" "[B" (.ref ab)) (F_position_r0 : Fld Z h0 r0 "com/example/fair_witness/fairwitness/attestation/DerReader" "position" "I" (.int (0 : Int32))) (F_end_r0 : Fld Z h0 r0 "com/example/fair_witness/fairwitness/attestation/DerReader" "end" "I" (.int (8 : Int32))) (E_r0 : Exa Z h0 r0 "com/example/fair_witness/fairwitness/attestation/DerReader") (g_r0 : n0 ≤ r0) (V_ab : Arv Z h0 ab kc .byte (8 : Int32) [(.int dd0), (.int dd1), (.int dd2), (.int dd3), (.int dd4), (.int dd5), (.int dd6), (.int dd7)] (.int (0 : Int32))) (E_ab : Exa Z h0 ab "[B") (hv0 : (dd0 &&& (255 : Int32)) = (48 : Int32)) (hv1 : (dd1 &&& (255 : Int32)) = w) (hne : ¬ (w = (128 : Int32))) (hle : ¬ ((128 : Int32) < w)) (hfit : ¬ ((0 : Int32) < (lcmpW (w.toInt64) (((8 : Int32) - (2 : Int32)).toInt64)))) (hz : ((2 : Int32) + w) = z) :
    MetFree l (⟨"com/example/fair_witness/fairwitness/attestation/DerReader", "readSequence", "()Lcom/example/fair_witness/fairwitness/attestation/DerReader;"⟩ : MethodName) (head1 (Jvm.Cond.code (⟨"com/example/fair_witness/fairwitness/attestation/DerReader", "readSequence", "()Lcom/example/fair_witness/fairwitness/attestation/DerReader;"⟩ : MethodName) prog_10_method_4_code 1 (some (.object "com/example/fair_witness/fairwitness/attestation/DerReader")) :: ws) ({ frames := 3, cells := 3, slots := 39, locals := 50 } : Room)) (fun a U => a = #[(.ref r0)] ∧ Z.Warmed39 U.vm ∧ U.heap = h0) (fun _ _ _ _ _ => True) (fun _ U o U' => ∃ v L, o = .returned v ∧ Q5 Z r0 ab kc dd0 dd1 dd2 dd3 dd4 dd5 dd6 dd7 w z h0 n0 v U'.heap L ∧ ReturnedEndW U o U' L ({ frames := 3, cells := 3, slots := 39, locals := 50 } : Room).cells ({ frames := 3, cells := 3, slots := 39, locals := 50 } : Room).slots) := by
  refine MetFree.of_bodySF (plainFor_of_name pn1) hisR ?_
  intro p e s m args below meth c s₁ Bd hml0 hP hK
  obtain ⟨rfl, hZ, hh⟩ := hP
  have hx := Bd.exec
  have hby := Bd.bytes
  have hml : c.maxLocals = 1 := hml0
  have hown : s.vm.findClass "com/example/fair_witness/fairwitness/attestation/DerReader" = some m.cls := findClass_of_methodNamed Bd.named
  have hnm := (name_of_methodNamed Bd.named Bd.method).1
  have X0 : Stand p l e ({ frames := 3, cells := 3, slots := 39, locals := 50 } : Room) s m #[(.ref r0)] below meth c s₁ [] 0 0 := Stand.of_body Bd
  have e0 : s₁.heap = h0 := by rw [← hh, Bd.state]; rfl
  have N0 := Fr.nil n0
  have pre0 : ∀ t, Steps p.tables e below (s₁.setTop (mkF m 0 #[rv r0] [])) t → Steps p.tables e below (s₁.setTop (entryFrame m #[(.ref r0)] 1)) t := fun t k => castTop (ef_5 m r0) k
  have hS0 : s.Since s.vm h0.size := (State.WarmedH.refl s).since _
  have pre1 : ∀ t, Steps p.tables e below (s₁.setTop (mkF m 4 #[rv r0] [(.int (48 : Int32)), (.ref r0), (.ref r0)])) t → Steps p.tables e below (s₁.setTop (entryFrame m #[(.ref r0)] 1)) t := by
    intro t kt
    refine pre0 _ ?_
    show Steps p.tables e below (s₁.setTop (mkF m 0 #[rv r0] [])) _
    refine XS.aloadN X0.here hx rfl (hb hby d5_0) rfl rfl ?_
    refine XS.aloadN X0.here hx rfl (hb hby d5_1) rfl rfl ?_
    refine XS.bipush X0.here hx rfl (hb hby d5_2) ?_
    exact kt
  obtain ⟨b2, T2, h2, k2, X2, e2, E2, hS2, hk2, hZ, hown, st2⟩ := ldcS (s := s) (vm0 := s.vm) X0 hx hZ hown (hw _ (List.mem_of_getElem? (i := 28) rfl)) (own_wS hw) e0 hS0 (Nat.le_refl _) (g := (mkF m 4 #[rv r0] [(.int (48 : Int32)), (.ref r0), (.ref r0)])) rfl (hb hby d5_4) (n := 32) (by decide +kernel) (by decide) (by decide) (by decide)
  have K2 : Keep h0 h2 [r0] := (Keep.refl h0 [r0]).ext E2
  have pre3 : ∀ t, Steps p.tables e below (T2.setTop (mkF m 6 #[rv r0] [(.ref b2), (.int (48 : Int32)), (.ref r0), (.ref r0)])) t → Steps p.tables e below (s₁.setTop (entryFrame m #[(.ref r0)] 1)) t := by
    intro t kt
    refine pre1 _ ?_
    show Steps p.tables e below (s₁.setTop (mkF m 4 #[rv r0] [(.int (48 : Int32)), (.ref r0), (.ref r0)])) _
    refine st2 _ ?_
    exact kt
  obtain ⟨cq4, q4, q4'⟩ := (E_r0.ext E2).cell
  obtain ⟨_, _, ⟨T4, L4, k4, n4⟩, -, X4, ⟨Lc4, hQ4, l4, y4, z4⟩, st4⟩ := X2.privateBack hx (y := (⟨"com/example/fair_witness/fairwitness/attestation/DerReader", "readHeader", "(ILjava/lang/String;)I"⟩ : MethodName)) hown (mvT hZ (hw _ (List.mem_of_getElem? (i := 35) rfl))) (mvT hZ (hw _ (List.mem_of_getElem? (i := 36) rfl))) (own_selp (y := (⟨"com/example/fair_witness/fairwitness/attestation/DerReader", "readHeader", "(ILjava/lang/String;)I"⟩ : MethodName)) (mvT hZ (hw _ (List.mem_of_getElem? (i := 6) rfl))) (Cond.privateMethod_at (mvP hZ (hw _ (List.mem_of_getElem? (i := 37) rfl)) (args := #[]))) (mvT hZ (hw _ (List.mem_of_getElem? (i := 36) rfl))) (by decide)) (Cond.privateMethod_at (mvP hZ (hw _ (List.mem_of_getElem? (i := 37) rfl)) (args := #[]))) (mvT hZ (hw _ (List.mem_of_getElem? (i := 38) rfl))) (by decide) (backOf (W := 1) (rm6 l Z a0 hw [] r0 b2 ab kc dd0 dd1 dd2 dd3 dd4 dd5 dd6 dd7 w h2 n0 (Nat.le_trans Z0 K2.1) (F_bytes_r0.ext E2) (F_position_r0.ext E2) (F_end_r0.ext E2) (E_r0.ext E2) g_r0 (V_ab.ext E2) (E_ab.ext E2) hv0 hv1 hne hle hfit) hZ (hw _ (List.mem_of_getElem? (i := 38) rfl)) (hw _ (List.mem_of_getElem? (i := 7) rfl)) (by decide) (by decide)) (g := (mkF m 6 #[rv r0] [(.ref b2), (.int (48 : Int32)), (.ref r0), (.ref r0)])) rfl (by rw [hml]; rfl) (Steps.refl _) (a := r0) (by rw [e2]; exact q4) q4' (argsL := [(.int (48 : Int32)), (.ref b2)]) (rest := [(.ref r0)]) (lenOf pd3 rfl) rfl (by show 2 * 0 + _ ≤ _; exact Nat.le_of_eq rfl) (hb hby d5_6) (fun _ _ => ⟨rfl, e2, (by decide : 2 + 0 ≤ _), (by decide : 36 + 0 ≤ _)⟩)
  dsimp only [Pt.U, Pt.locs, Pt.cells, Pt.slots] at X4 l4 y4 z4 st4 hQ4
  subst l4 y4 z4
  obtain ⟨rfl, N4q, Kc4, Fb_4, Fp_4, Fe_4⟩ := hQ4
  have N4 := Fr.app N0 N4q
  have K4 : Keep h0 T4.heap [r0] := K2.trans Kc4 (allS (Or.inl (List.mem_of_getElem? (i := 0) rfl)) all0)
  have pre5 : ∀ t, Steps p.tables e below (T4.setTop (mkF m 9 #[rv r0] [(.int w), (.ref r0)])) t → Steps p.tables e below (s₁.setTop (entryFrame m #[(.ref r0)] 1)) t := by
    intro t kt
    refine pre3 _ ?_
    show Steps p.tables e below (T2.setTop (mkF m 6 #[rv r0] [(.ref b2), (.int (48 : Int32)), (.ref r0), (.ref r0)])) _
    refine st4.trans ?_
    exact kt
  obtain ⟨cq6, q6, q6'⟩ := ((E_r0.ext E2).keep Kc4).cell
  obtain ⟨_, _, ⟨T6, L6, k6, n6⟩, -, X6, ⟨Lc6, hQ6, l6, y6, z6⟩, st6⟩ := X4.privateBack hx (y := (⟨"com/example/fair_witness/fairwitness/attestation/DerReader", "contentReader", "(I)Lcom/example/fair_witness/fairwitness/attestation/DerReader;"⟩ : MethodName)) hown (mvT hZ (hw _ (List.mem_of_getElem? (i := 47) rfl))) (mvT hZ (hw _ (List.mem_of_getElem? (i := 48) rfl))) (own_selp (y := (⟨"com/example/fair_witness/fairwitness/attestation/DerReader", "contentReader", "(I)Lcom/example/fair_witness/fairwitness/attestation/DerReader;"⟩ : MethodName)) (mvT hZ (hw _ (List.mem_of_getElem? (i := 6) rfl))) (Cond.privateMethod_at (mvP hZ (hw _ (List.mem_of_getElem? (i := 49) rfl)) (args := #[]))) (mvT hZ (hw _ (List.mem_of_getElem? (i := 48) rfl))) (by decide)) (Cond.privateMethod_at (mvP hZ (hw _ (List.mem_of_getElem? (i := 49) rfl)) (args := #[]))) (mvT hZ (hw _ (List.mem_of_getElem? (i := 50) rfl))) (by decide) (backOf (W := 0) (rm9 l Z a0 hw [] r0 w ab z T4.heap n0 (Nat.le_trans Z0 K4.1) Fb_4 Fp_4 Fe_4 ((E_r0.ext E2).keep Kc4) g_r0 hz) hZ (hw _ (List.mem_of_getElem? (i := 50) rfl)) (hw _ (List.mem_of_getElem? (i := 7) rfl)) (by decide) (by decide)) (g := (mkF m 9 #[rv r0] [(.int w), (.ref r0)])) rfl (by rw [hml]; rfl) (Steps.refl _) (a := r0) q6 q6' (argsL := [(.int w)]) (rest := []) (lenOf pd4 rfl) rfl (by show 2 * 0 + _ ≤ _; exact Nat.le_of_eq rfl) (hb hby d5_9) (fun _ _ => ⟨rfl, rfl, (by decide : 2 + 1 ≤ _), (by decide : 36 + 3 ≤ _)⟩)
  dsimp only [Pt.U, Pt.locs, Pt.cells, Pt.slots] at X6 l6 y6 z6 st6 hQ6
  subst l6 y6 z6
  obtain ⟨x6, rfl, N6q, Kc6, hx6, Fb_6, Fp_6, Fe_6, Ex_6, Fbx_6, Fpx_6, Fex_6⟩ := hQ6
  have N6 := Fr.app N4 N6q
  have K6 : Keep h0 T6.heap [r0] := K4.trans Kc6 (allS (Or.inl (List.mem_of_getElem? (i := 0) rfl)) all0)
  have g_x6 : n0 ≤ x6 := Nat.le_trans (Nat.le_trans Z0 K4.1) hx6
  have sz_x6 : h0.size ≤ x6 := Nat.le_trans K4.1 hx6
  have ne_6 : r0 ≠ x6 := Nat.ne_of_lt (Nat.lt_of_lt_of_le ((E_r0.ext E2).keep Kc4).lt hx6)
  have pre7 : ∀ t, Steps p.tables e below (T6.setTop (mkF m 12 #[rv r0] [(.ref x6)])) t → Steps p.tables e below (s₁.setTop (entryFrame m #[(.ref r0)] 1)) t := by
    intro t kt
    refine pre5 _ ?_
    show Steps p.tables e below (T4.setTop (mkF m 9 #[rv r0] [(.int w), (.ref r0)])) _
    refine st6.trans ?_
    exact kt
  obtain ⟨fs, hr, hrun, hended, hRW⟩ := Jvm.Stand.leaveW (s := s) (vm₁ := T2.vm) X6 hS2 (Nat.le_trans (Nat.le_trans hk2 Kc4.1) Kc6.1) (v := some (.ref x6)) (fun h => by rw [Bd.returns] at h; cases h)
  refine ⟨_, _, pre7 _ ?_, hrun, hended, _, _, rfl, ?_, hRW.1, hRW.2.1, hRW.2.2.1, hRW.2.2.2.mono (by decide) (by decide)⟩
  · show Steps p.tables e below (T6.setTop (mkF m 12 #[rv r0] [(.ref x6)])) _
    jvm_step X6.here [X6.here.top, hx, (hb hby d5_12), X6.method', Bd.returns, Value.isRef, FieldType.isReference]
    first | (intro acts; rw [hr _ acts rfl rfl rfl]) | rw [hr _ _ rfl rfl rfl]
    exact Steps.refl _
  · show Q5 Z r0 ab kc dd0 dd1 dd2 dd3 dd4 dd5 dd6 dd7 w z h0 n0 _ T6.heap _
    exact ⟨x6, rfl, N6, K6, sz_x6, Fb_6, Fp_6, Fe_6, Ex_6, Fbx_6, Fpx_6, Fex_6⟩
theorem d10_0 : decode prog_10_method_3_code 0 = .ok (.aload_n 0, 1) := by decide +kernel
theorem d10_1 : decode prog_10_method_3_code 1 = .ok (.getfield 16, 3) := by decide +kernel
theorem d10_4 : decode prog_10_method_3_code 4 = .ok (.aload_n 0, 1) := by decide +kernel
theorem d10_5 : decode prog_10_method_3_code 5 = .ok (.getfield 20, 3) := by decide +kernel
theorem d10_8 : decode prog_10_method_3_code 8 = .ok (.if_icmp .ge 7, 3) := by decide +kernel
theorem d10_11 : decode prog_10_method_3_code 11 = .ok (.iconst 1, 1) := by decide +kernel
theorem d10_12 : decode prog_10_method_3_code 12 = .ok (.goto 4, 3) := by decide +kernel
theorem d10_16 : decode prog_10_method_3_code 16 = .ok (.ireturn, 1) := by decide +kernel
theorem ef_10i1 (m : MethodId) (x0 : Addr) : entryFrame m #[(.ref x0)] 1 = mkF m 0 #[.val (.ref x0)] [] := by first | (simp [entryFrame, mkF, argsToLocals, Value.category]; done) | rfl
def Q10i1 (Z : State) (r0 : Addr) (ab : Addr) (ps : Int32) (en : Int32) (h0 : Heap) (n0 : Nat) (v : Option Value) (h : Heap) (L : List Loc) : Prop := v = some (.int (1 : Int32)) ∧ Fr n0 L ∧ h = h0
set_option maxRecDepth 65536 in
set_option maxHeartbeats 40000000 in
theorem rm10i1 (l : Launch) (Z : State) (a0 : Array Value) (hw : ∀ d ∈ tables_1, d.before a0 Z = true) (ws : List Jvm.Cond) (r0 : Addr) (ab : Addr) (ps : Int32) (en : Int32) (h0 : Heap) (n0 : Nat) (Z0 : n0 ≤ h0.size) (F_bytes_r0 : Fld Z h0 r0 "com/example/fair_witness/fairwitness/attestation/DerReader" "bytes" "[B" (.ref ab)) (F_position_r0 : Fld Z h0 r0 "com/example/fair_witness/fairwitness/attestation/DerReader" "position" "I" (.int ps)) (F_end_r0 : Fld Z h0 r0 "com/example/fair_witness/fairwitness/attestation/DerReader" "end" "I" (.int en)) (E_r0 : Exa Z h0 r0 "com/example/fair_witness/fairwitness/attestation/DerReader") (hlt : ps < en) :
    MetFree l (⟨"com/example/fair_witness/fairwitness/attestation/DerReader", "hasMore", "()Z"⟩ : MethodName) (head1 (Jvm.Cond.code (⟨"com/example/fair_witness/fairwitness/attestation/DerReader", "hasMore", "()Z"⟩ : MethodName) prog_10_method_3_code 1 (some .boolean) :: ws) ({ frames := 0, cells := 0, slots := 0, locals := 0 } : Room)) (fun a U => a = #[(.ref r0)] ∧ Z.Warmed39 U.vm ∧ U.heap = h0) (fun _ _ _ _ _ => True) (fun _ U o U' => ∃ v L, o = .returned v ∧ Q10i1 Z r0 ab ps en h0 n0 v U'.heap L ∧ FrameEnd U o U' L ({ frames := 0, cells := 0, slots := 0, locals := 0 } : Room).cells ({ frames := 0, cells := 0, slots := 0, locals := 0 } : Room).slots) := by
  refine MetFree.of_bodySF (plainFor_of_name pn1) hisR ?_
  intro p e s m args below meth c s₁ Bd hml0 hP hK
  obtain ⟨rfl, hZ, hh⟩ := hP
  have hx := Bd.exec
  have hby := Bd.bytes
  have hml : c.maxLocals = 1 := hml0
  have hown : s.vm.findClass "com/example/fair_witness/fairwitness/attestation/DerReader" = some m.cls := findClass_of_methodNamed Bd.named
  have hnm := (name_of_methodNamed Bd.named Bd.method).1
  have X0 : Stand p l e ({ frames := 0, cells := 0, slots := 0, locals := 0 } : Room) s m #[(.ref r0)] below meth c s₁ [] 0 0 := Stand.of_body Bd
  have e0 : s₁.heap = h0 := by rw [← hh, Bd.state]; rfl
  have N0 := Fr.nil n0
  have pre0 : ∀ t, Steps p.tables e below (s₁.setTop (mkF m 0 #[rv r0] [])) t → Steps p.tables e below (s₁.setTop (entryFrame m #[(.ref r0)] 1)) t := fun t k => castTop (ef_10i1 m r0) k
  have pre1 : ∀ t, Steps p.tables e below (s₁.setTop (mkF m 1 #[rv r0] [(.ref r0)])) t → Steps p.tables e below (s₁.setTop (entryFrame m #[(.ref r0)] 1)) t := by
    intro t kt
    refine pre0 _ ?_
    show Steps p.tables e below (s₁.setTop (mkF m 0 #[rv r0] [])) _
    refine XS.aloadN X0.here hx rfl (hb hby d10_0) rfl rfl ?_
    exact kt
  obtain ⟨T2, X2, e2, st2⟩ := getF X0 hx hZ hown (host := "") (Or.inl (hw _ (List.mem_of_getElem? (i := 19) rfl))) Via.refl e0 F_position_r0 (g := (mkF m 1 #[rv r0] [(.ref r0)])) rfl rfl (hb hby d10_1)
  have pre3 : ∀ t, Steps p.tables e below (T2.setTop (mkF m 5 #[rv r0] [(.ref r0), (.int ps)])) t → Steps p.tables e below (s₁.setTop (entryFrame m #[(.ref r0)] 1)) t := by
    intro t kt
    refine pre1 _ ?_
    show Steps p.tables e below (s₁.setTop (mkF m 1 #[rv r0] [(.ref r0)])) _
    refine st2 _ ?_
    show Steps p.tables e below (T2.setTop (mkF m 4 #[rv r0] [(.int ps)])) _
    refine XS.aloadN X2.here hx rfl (hb hby d10_4) rfl rfl ?_
    exact kt
  obtain ⟨T4, X4, e4, st4⟩ := getF X2 hx hZ hown (host := "") (Or.inl (hw _ (List.mem_of_getElem? (i := 21) rfl))) Via.refl e2 F_end_r0 (g := (mkF m 5 #[rv r0] [(.ref r0), (.int ps)])) rfl rfl (hb hby d10_5)
  have pre6 : ∀ t, Steps p.tables e below (T4.setTop (mkF m 8 #[rv r0] [(.int en), (.int ps)])) t → Steps p.tables e below (s₁.setTop (entryFrame m #[(.ref r0)] 1)) t := by
    intro t kt
    refine pre3 _ ?_
    show Steps p.tables e below (T2.setTop (mkF m 5 #[rv r0] [(.ref r0), (.int ps)])) _
    refine st4 _ ?_
    exact kt
  have hc8_5 : ps < en := hlt
  have pre7 : ∀ t, Steps p.tables e below (T4.setTop (mkF m 16 #[rv r0] [(.int (1 : Int32))])) t → Steps p.tables e below (s₁.setTop (entryFrame m #[(.ref r0)] 1)) t := by
    intro t kt
    refine pre6 _ ?_
    show Steps p.tables e below (T4.setTop (mkF m 8 #[rv r0] [(.int en), (.int ps)])) _
    refine XS.icmpNo X4.here hx rfl (hb hby d10_8) rfl (tlt hc8_5).2.1 ?_
    refine XS.iconst X4.here hx rfl (hb hby d10_11) ?_
    refine XS.goto X4.here hx rfl (pc0 := 12) (pc' := 16) rfl (hb hby d10_12) (by decide) (by decide) ?_
    exact kt
  obtain ⟨fs, hr, hrun, hended, hW, hsame⟩ := X4.leave (v := some (.int (1 : Int32))) (fun h => by rw [Bd.returns] at h; cases h)
  refine ⟨_, _, pre7 _ ?_, hrun, hended, _, _, rfl, ?_, ⟨_, rfl⟩, hW, hsame.mono (by decide) (by decide)⟩
  · show Steps p.tables e below (T4.setTop (mkF m 16 #[rv r0] [(.int (1 : Int32))])) _
    exact retN X4 hx (t := .boolean) Bd.returns (by simp) (hb hby d10_16) hr
  · show Q10i1 Z r0 ab ps en h0 n0 _ T4.heap _
    rw [e4]
    exact ⟨rfl, N0, rfl⟩
theorem d10_15 : decode prog_10_method_3_code 15 = .ok (.iconst 0, 1) := by decide +kernel
theorem ef_10i0 (m : MethodId) (x0 : Addr) : entryFrame m #[(.ref x0)] 1 = mkF m 0 #[.val (.ref x0)] [] := by first | (simp [entryFrame, mkF, argsToLocals, Value.category]; done) | rfl
def Q10i0 (Z : State) (r0 : Addr) (ab : Addr) (ps : Int32) (en : Int32) (h0 : Heap) (n0 : Nat) (v : Option Value) (h : Heap) (L : List Loc) : Prop := v = some (.int (0 : Int32)) ∧ Fr n0 L ∧ h = h0
set_option maxRecDepth 65536 in
set_option maxHeartbeats 40000000 in
theorem rm10i0 (l : Launch) (Z : State) (a0 : Array Value) (hw : ∀ d ∈ tables_1, d.before a0 Z = true) (ws : List Jvm.Cond) (r0 : Addr) (ab : Addr) (ps : Int32) (en : Int32) (h0 : Heap) (n0 : Nat) (Z0 : n0 ≤ h0.size) (F_bytes_r0 : Fld Z h0 r0 "com/example/fair_witness/fairwitness/attestation/DerReader" "bytes" "[B" (.ref ab)) (F_position_r0 : Fld Z h0 r0 "com/example/fair_witness/fairwitness/attestation/DerReader" "position" "I" (.int ps)) (F_end_r0 : Fld Z h0 r0 "com/example/fair_witness/fairwitness/attestation/DerReader" "end" "I" (.int en)) (E_r0 : Exa Z h0 r0 "com/example/fair_witness/fairwitness/attestation/DerReader") (hlt : ¬ (ps < en)) :
    MetFree l (⟨"com/example/fair_witness/fairwitness/attestation/DerReader", "hasMore", "()Z"⟩ : MethodName) (head1 (Jvm.Cond.code (⟨"com/example/fair_witness/fairwitness/attestation/DerReader", "hasMore", "()Z"⟩ : MethodName) prog_10_method_3_code 1 (some .boolean) :: ws) ({ frames := 0, cells := 0, slots := 0, locals := 0 } : Room)) (fun a U => a = #[(.ref r0)] ∧ Z.Warmed39 U.vm ∧ U.heap = h0) (fun _ _ _ _ _ => True) (fun _ U o U' => ∃ v L, o = .returned v ∧ Q10i0 Z r0 ab ps en h0 n0 v U'.heap L ∧ FrameEnd U o U' L ({ frames := 0, cells := 0, slots := 0, locals := 0 } : Room).cells ({ frames := 0, cells := 0, slots := 0, locals := 0 } : Room).slots) := by
  refine MetFree.of_bodySF (plainFor_of_name pn1) hisR ?_
  intro p e s m args below meth c s₁ Bd hml0 hP hK
  obtain ⟨rfl, hZ, hh⟩ := hP
  have hx := Bd.exec
  have hby := Bd.bytes
  have hml : c.maxLocals = 1 := hml0
  have hown : s.vm.findClass "com/example/fair_witness/fairwitness/attestation/DerReader" = some m.cls := findClass_of_methodNamed Bd.named
  have hnm := (name_of_methodNamed Bd.named Bd.method).1
  have X0 : Stand p l e ({ frames := 0, cells := 0, slots := 0, locals := 0 } : Room) s m #[(.ref r0)] below meth c s₁ [] 0 0 := Stand.of_body Bd
  have e0 : s₁.heap = h0 := by rw [← hh, Bd.state]; rfl
  have N0 := Fr.nil n0
  have pre0 : ∀ t, Steps p.tables e below (s₁.setTop (mkF m 0 #[rv r0] [])) t → Steps p.tables e below (s₁.setTop (entryFrame m #[(.ref r0)] 1)) t := fun t k => castTop (ef_10i0 m r0) k
  have pre1 : ∀ t, Steps p.tables e below (s₁.setTop (mkF m 1 #[rv r0] [(.ref r0)])) t → Steps p.tables e below (s₁.setTop (entryFrame m #[(.ref r0)] 1)) t := by
    intro t kt
    refine pre0 _ ?_
    show Steps p.tables e below (s₁.setTop (mkF m 0 #[rv r0] [])) _
    refine XS.aloadN X0.here hx rfl (hb hby d10_0) rfl rfl ?_
    exact kt
  obtain ⟨T2, X2, e2, st2⟩ := getF X0 hx hZ hown (host := "") (Or.inl (hw _ (List.mem_of_getElem? (i := 19) rfl))) Via.refl e0 F_position_r0 (g := (mkF m 1 #[rv r0] [(.ref r0)])) rfl rfl (hb hby d10_1)
  have pre3 : ∀ t, Steps p.tables e below (T2.setTop (mkF m 5 #[rv r0] [(.ref r0), (.int ps)])) t → Steps p.tables e below (s₁.setTop (entryFrame m #[(.ref r0)] 1)) t := by
    intro t kt
    refine pre1 _ ?_
    show Steps p.tables e below (s₁.setTop (mkF m 1 #[rv r0] [(.ref r0)])) _
    refine st2 _ ?_
    show Steps p.tables e below (T2.setTop (mkF m 4 #[rv r0] [(.int ps)])) _
    refine XS.aloadN X2.here hx rfl (hb hby d10_4) rfl rfl ?_
    exact kt
  obtain ⟨T4, X4, e4, st4⟩ := getF X2 hx hZ hown (host := "") (Or.inl (hw _ (List.mem_of_getElem? (i := 21) rfl))) Via.refl e2 F_end_r0 (g := (mkF m 5 #[rv r0] [(.ref r0), (.int ps)])) rfl rfl (hb hby d10_5)
  have pre6 : ∀ t, Steps p.tables e below (T4.setTop (mkF m 8 #[rv r0] [(.int en), (.int ps)])) t → Steps p.tables e below (s₁.setTop (entryFrame m #[(.ref r0)] 1)) t := by
    intro t kt
    refine pre3 _ ?_
    show Steps p.tables e below (T2.setTop (mkF m 5 #[rv r0] [(.ref r0), (.int ps)])) _
    refine st4 _ ?_
    exact kt
  have hc8_5 : ¬ (ps < en) := hlt
  have pre7 : ∀ t, Steps p.tables e below (T4.setTop (mkF m 16 #[rv r0] [(.int (0 : Int32))])) t → Steps p.tables e below (s₁.setTop (entryFrame m #[(.ref r0)] 1)) t := by
    intro t kt
    refine pre6 _ ?_
    show Steps p.tables e below (T4.setTop (mkF m 8 #[rv r0] [(.int en), (.int ps)])) _
    refine XS.icmpYes X4.here hx rfl (pc0 := 8) (pc' := 15) rfl (hb hby d10_8) rfl (flt hc8_5).2.1 (by decide) (by decide) ?_
    refine XS.iconst X4.here hx rfl (hb hby d10_15) ?_
    exact kt
  obtain ⟨fs, hr, hrun, hended, hW, hsame⟩ := X4.leave (v := some (.int (0 : Int32))) (fun h => by rw [Bd.returns] at h; cases h)
  refine ⟨_, _, pre7 _ ?_, hrun, hended, _, _, rfl, ?_, ⟨_, rfl⟩, hW, hsame.mono (by decide) (by decide)⟩
  · show Steps p.tables e below (T4.setTop (mkF m 16 #[rv r0] [(.int (0 : Int32))])) _
    exact retN X4 hx (t := .boolean) Bd.returns (by simp) (hb hby d10_16) hr
  · show Q10i0 Z r0 ab ps en h0 n0 _ T4.heap _
    rw [e4]
    exact ⟨rfl, N0, rfl⟩
theorem d12_0 : decode prog_10_method_22_code 0 = .ok (.iload_n 2, 1) := by decide +kernel
theorem d12_1 : decode prog_10_method_22_code 1 = .ok (.bipush 31, 2) := by decide +kernel
theorem d12_3 : decode prog_10_method_22_code 3 = .ok (.iand, 1) := by decide +kernel
theorem d12_4 : decode prog_10_method_22_code 4 = .ok (.istore 4, 2) := by decide +kernel
theorem d12_6 : decode prog_10_method_22_code 6 = .ok (.iload 4, 2) := by decide +kernel
theorem d12_8 : decode prog_10_method_22_code 8 = .ok (.bipush 31, 2) := by decide +kernel
theorem d12_10 : decode prog_10_method_22_code 10 = .ok (.if_icmp .ne 125, 3) := by decide +kernel
theorem d12_135 : decode prog_10_method_22_code 135 = .ok (.iload 4, 2) := by decide +kernel
theorem d12_137 : decode prog_10_method_22_code 137 = .ok (.ireturn, 1) := by decide +kernel
theorem ef_12 (m : MethodId) (x0 : Addr) (x1 : Int32) (x2 : Int32) (x3 : Addr) : entryFrame m #[(.ref x0), (.int x1), (.int x2), (.ref x3)] 8 = mkF m 0 #[.val (.ref x0), .val (.int x1), .val (.int x2), .val (.ref x3), .unset, .unset, .unset, .unset] [] := by first | (simp [entryFrame, mkF, argsToLocals, Value.category]; done) | rfl
def Q12 (Z : State) (r0 : Addr) (p1 : Int32) (p2 : Int32) (r3 : Addr) (h0 : Heap) (n0 : Nat) (v : Option Value) (h : Heap) (L : List Loc) : Prop := v = some (.int (p2 &&& (31 : Int32))) ∧ Fr n0 L ∧ h = h0
set_option maxRecDepth 65536 in
set_option maxHeartbeats 40000000 in
theorem rm12 (l : Launch) (Z : State) (a0 : Array Value) (hw : ∀ d ∈ tables_1, d.before a0 Z = true) (ws : List Jvm.Cond) (r0 : Addr) (p1 : Int32) (p2 : Int32) (r3 : Addr) (h0 : Heap) (n0 : Nat) (Z0 : n0 ≤ h0.size) (ht : ¬ ((p2 &&& (31 : Int32)) = (31 : Int32))) :
    MetFree l (⟨"com/example/fair_witness/fairwitness/attestation/DerReader", "readTagNumber", "(IILjava/lang/String;)I"⟩ : MethodName) (head1 (Jvm.Cond.code (⟨"com/example/fair_witness/fairwitness/attestation/DerReader", "readTagNumber", "(IILjava/lang/String;)I"⟩ : MethodName) prog_10_method_22_code 8 (some .int) :: ws) ({ frames := 0, cells := 0, slots := 0, locals := 0 } : Room)) (fun a U => a = #[(.ref r0), (.int p1), (.int p2), (.ref r3)] ∧ Z.Warmed39 U.vm ∧ U.heap = h0) (fun _ _ _ _ _ => True) (fun _ U o U' => ∃ v L, o = .returned v ∧ Q12 Z r0 p1 p2 r3 h0 n0 v U'.heap L ∧ FrameEnd U o U' L ({ frames := 0, cells := 0, slots := 0, locals := 0 } : Room).cells ({ frames := 0, cells := 0, slots := 0, locals := 0 } : Room).slots) := by
  refine MetFree.of_bodySF (plainFor_of_name pn1) hisR ?_
  intro p e s m args below meth c s₁ Bd hml0 hP hK
  obtain ⟨rfl, hZ, hh⟩ := hP
  have hx := Bd.exec
  have hby := Bd.bytes
  have hml : c.maxLocals = 8 := hml0
  have hown : s.vm.findClass "com/example/fair_witness/fairwitness/attestation/DerReader" = some m.cls := findClass_of_methodNamed Bd.named
  have hnm := (name_of_methodNamed Bd.named Bd.method).1
  have X0 : Stand p l e ({ frames := 0, cells := 0, slots := 0, locals := 0 } : Room) s m #[(.ref r0), (.int p1), (.int p2), (.ref r3)] below meth c s₁ [] 0 0 := Stand.of_body Bd
  have e0 : s₁.heap = h0 := by rw [← hh, Bd.state]; rfl
  have N0 := Fr.nil n0
  have pre0 : ∀ t, Steps p.tables e below (s₁.setTop (mkF m 0 #[rv r0, iv p1, iv p2, rv r3, .unset, .unset, .unset, .unset] [])) t → Steps p.tables e below (s₁.setTop (entryFrame m #[(.ref r0), (.int p1), (.int p2), (.ref r3)] 8)) t := fun t k => castTop (ef_12 m r0 p1 p2 r3) k
  have pre2 : ∀ t, Steps p.tables e below (s₁.setTop (mkF m 10 #[rv r0, iv p1, iv p2, rv r3, iv (p2 &&& (31 : Int32)), .unset, .unset, .unset] [(.int (31 : Int32)), (.int (p2 &&& (31 : Int32)))])) t → Steps p.tables e below (s₁.setTop (entryFrame m #[(.ref r0), (.int p1), (.int p2), (.ref r3)] 8)) t := by
    intro t kt
    refine pre0 _ ?_
    show Steps p.tables e below (s₁.setTop (mkF m 0 #[rv r0, iv p1, iv p2, rv r3, .unset, .unset, .unset, .unset] [])) _
    refine XS.iloadN X0.here hx rfl (hb hby d12_0) rfl ?_
    refine XS.bipush X0.here hx rfl (hb hby d12_1) ?_
    refine XS.iand X0.here hx rfl (hb hby d12_3) rfl ?_
    refine XS.istore X0.here hx rfl (hb hby d12_4) rfl (l' := #[rv r0, iv p1, iv p2, rv r3, iv (p2 &&& (31 : Int32)), .unset, .unset, .unset]) rfl ?_
    refine XS.iload X0.here hx rfl (hb hby d12_6) rfl ?_
    refine XS.bipush X0.here hx rfl (hb hby d12_8) ?_
    exact kt
  have hc10_1 : ¬ ((p2 &&& (31 : Int32)) = (31 : Int32)) := ht
  have pre3 : ∀ t, Steps p.tables e below (s₁.setTop (mkF m 137 #[rv r0, iv p1, iv p2, rv r3, iv (p2 &&& (31 : Int32)), .unset, .unset, .unset] [(.int (p2 &&& (31 : Int32)))])) t → Steps p.tables e below (s₁.setTop (entryFrame m #[(.ref r0), (.int p1), (.int p2), (.ref r3)] 8)) t := by
    intro t kt
    refine pre2 _ ?_
    show Steps p.tables e below (s₁.setTop (mkF m 10 #[rv r0, iv p1, iv p2, rv r3, iv (p2 &&& (31 : Int32)), .unset, .unset, .unset] [(.int (31 : Int32)), (.int (p2 &&& (31 : Int32)))])) _
    refine XS.icmpYes X0.here hx rfl (pc0 := 10) (pc' := 135) rfl (hb hby d12_10) rfl (feq hc10_1).2 (by decide) (by decide) ?_
    refine XS.iload X0.here hx rfl (hb hby d12_135) rfl ?_
    exact kt
  obtain ⟨fs, hr, hrun, hended, hW, hsame⟩ := X0.leave (v := some (.int (p2 &&& (31 : Int32)))) (fun h => by rw [Bd.returns] at h; cases h)
  refine ⟨_, _, pre3 _ ?_, hrun, hended, _, _, rfl, ?_, ⟨_, rfl⟩, hW, hsame.mono (by decide) (by decide)⟩
  · show Steps p.tables e below (s₁.setTop (mkF m 137 #[rv r0, iv p1, iv p2, rv r3, iv (p2 &&& (31 : Int32)), .unset, .unset, .unset] [(.int (p2 &&& (31 : Int32)))])) _
    exact retI X0 hx Bd.returns (hb hby d12_137) hr
  · show Q12 Z r0 p1 p2 r3 h0 n0 _ s₁.heap _
    rw [e0]
    exact ⟨rfl, N0, rfl⟩
theorem pn5 : plainFor (⟨"java/lang/Math", "min", "(II)I"⟩ : MethodName) = true := by decide +kernel
theorem d16_0 : decode jdk_29_method_69_code 0 = .ok (.iload_n 0, 1) := by decide +kernel
theorem d16_1 : decode jdk_29_method_69_code 1 = .ok (.iload_n 1, 1) := by decide +kernel
theorem d16_2 : decode jdk_29_method_69_code 2 = .ok (.if_icmp .gt 7, 3) := by decide +kernel
theorem d16_9 : decode jdk_29_method_69_code 9 = .ok (.iload_n 1, 1) := by decide +kernel
theorem d16_10 : decode jdk_29_method_69_code 10 = .ok (.ireturn, 1) := by decide +kernel
theorem ef_16i1 (m : MethodId) (x0 : Int32) (x1 : Int32) : entryFrame m #[(.int x0), (.int x1)] 2 = mkF m 0 #[.val (.int x0), .val (.int x1)] [] := by first | (simp [entryFrame, mkF, argsToLocals, Value.category]; done) | rfl
def Q16i1 (Z : State) (p0 : Int32) (p1 : Int32) (h0 : Heap) (n0 : Nat) (v : Option Value) (h : Heap) (L : List Loc) : Prop := v = some (.int p1) ∧ Fr n0 L ∧ h = h0
set_option maxRecDepth 65536 in
set_option maxHeartbeats 40000000 in
theorem rm16i1 (l : Launch) (Z : State) (a0 : Array Value) (hw : ∀ d ∈ tables_1, d.before a0 Z = true) (ws : List Jvm.Cond) (p0 : Int32) (p1 : Int32) (h0 : Heap) (n0 : Nat) (Z0 : n0 ≤ h0.size) (hlt : p1 < p0) :
    MetFree l (⟨"java/lang/Math", "min", "(II)I"⟩ : MethodName) (head1 (Jvm.Cond.code (⟨"java/lang/Math", "min", "(II)I"⟩ : MethodName) jdk_29_method_69_code 2 (some .int) :: ws) ({ frames := 0, cells := 0, slots := 0, locals := 0 } : Room)) (fun a U => a = #[(.int p0), (.int p1)] ∧ Z.Warmed39 U.vm ∧ U.heap = h0) (fun _ _ _ _ _ => True) (fun _ U o U' => ∃ v L, o = .returned v ∧ Q16i1 Z p0 p1 h0 n0 v U'.heap L ∧ FrameEnd U o U' L ({ frames := 0, cells := 0, slots := 0, locals := 0 } : Room).cells ({ frames := 0, cells := 0, slots := 0, locals := 0 } : Room).slots) := by
  refine MetFree.of_bodySF (Jvm.Free.JP.mathPlain rfl (by decide +kernel)) hisR ?_
  intro p e s m args below meth c s₁ Bd hml0 hP hK
  obtain ⟨rfl, hZ, hh⟩ := hP
  have hx := Bd.exec
  have hby := Bd.bytes
  have hml : c.maxLocals = 2 := hml0
  have hown : s.vm.findClass "java/lang/Math" = some m.cls := findClass_of_methodNamed Bd.named
  have hnm := (name_of_methodNamed Bd.named Bd.method).1
  have X0 : Stand p l e ({ frames := 0, cells := 0, slots := 0, locals := 0 } : Room) s m #[(.int p0), (.int p1)] below meth c s₁ [] 0 0 := Stand.of_body Bd
  have e0 : s₁.heap = h0 := by rw [← hh, Bd.state]; rfl
  have N0 := Fr.nil n0
  have pre0 : ∀ t, Steps p.tables e below (s₁.setTop (mkF m 0 #[iv p0, iv p1] [])) t → Steps p.tables e below (s₁.setTop (entryFrame m #[(.int p0), (.int p1)] 2)) t := fun t k => castTop (ef_16i1 m p0 p1) k
  have pre2 : ∀ t, Steps p.tables e below (s₁.setTop (mkF m 2 #[iv p0, iv p1] [(.int p1), (.int p0)])) t → Steps p.tables e below (s₁.setTop (entryFrame m #[(.int p0), (.int p1)] 2)) t := by
    intro t kt
    refine pre0 _ ?_
    show Steps p.tables e below (s₁.setTop (mkF m 0 #[iv p0, iv p1] [])) _
    refine XS.iloadN X0.here hx rfl (hb hby d16_0) rfl ?_
    refine XS.iloadN X0.here hx rfl (hb hby d16_1) rfl ?_
    exact kt
  have hc2_1 : p1 < p0 := hlt
  have pre3 : ∀ t, Steps p.tables e below (s₁.setTop (mkF m 10 #[iv p0, iv p1] [(.int p1)])) t → Steps p.tables e below (s₁.setTop (entryFrame m #[(.int p0), (.int p1)] 2)) t := by
    intro t kt
    refine pre2 _ ?_
    show Steps p.tables e below (s₁.setTop (mkF m 2 #[iv p0, iv p1] [(.int p1), (.int p0)])) _
    refine XS.icmpYes X0.here hx rfl (pc0 := 2) (pc' := 9) rfl (hb hby d16_2) rfl (tlt hc2_1).2.2.1 (by decide) (by decide) ?_
    refine XS.iloadN X0.here hx rfl (hb hby d16_9) rfl ?_
    exact kt
  obtain ⟨fs, hr, hrun, hended, hW, hsame⟩ := X0.leave (v := some (.int p1)) (fun h => by rw [Bd.returns] at h; cases h)
  refine ⟨_, _, pre3 _ ?_, hrun, hended, _, _, rfl, ?_, ⟨_, rfl⟩, hW, hsame.mono (by decide) (by decide)⟩
  · show Steps p.tables e below (s₁.setTop (mkF m 10 #[iv p0, iv p1] [(.int p1)])) _
    exact retI X0 hx Bd.returns (hb hby d16_10) hr
  · show Q16i1 Z p0 p1 h0 n0 _ s₁.heap _
    rw [e0]
    exact ⟨rfl, N0, rfl⟩
theorem d16_5 : decode jdk_29_method_69_code 5 = .ok (.iload_n 0, 1) := by decide +kernel
theorem d16_6 : decode jdk_29_method_69_code 6 = .ok (.goto 4, 3) := by decide +kernel
theorem ef_16i0 (m : MethodId) (x0 : Int32) (x1 : Int32) : entryFrame m #[(.int x0), (.int x1)] 2 = mkF m 0 #[.val (.int x0), .val (.int x1)] [] := by first | (simp [entryFrame, mkF, argsToLocals, Value.category]; done) | rfl
def Q16i0 (Z : State) (p0 : Int32) (p1 : Int32) (h0 : Heap) (n0 : Nat) (v : Option Value) (h : Heap) (L : List Loc) : Prop := v = some (.int p0) ∧ Fr n0 L ∧ h = h0
set_option maxRecDepth 65536 in
set_option maxHeartbeats 40000000 in
theorem rm16i0 (l : Launch) (Z : State) (a0 : Array Value) (hw : ∀ d ∈ tables_1, d.before a0 Z = true) (ws : List Jvm.Cond) (p0 : Int32) (p1 : Int32) (h0 : Heap) (n0 : Nat) (Z0 : n0 ≤ h0.size) (hlt : ¬ (p1 < p0)) :
    MetFree l (⟨"java/lang/Math", "min", "(II)I"⟩ : MethodName) (head1 (Jvm.Cond.code (⟨"java/lang/Math", "min", "(II)I"⟩ : MethodName) jdk_29_method_69_code 2 (some .int) :: ws) ({ frames := 0, cells := 0, slots := 0, locals := 0 } : Room)) (fun a U => a = #[(.int p0), (.int p1)] ∧ Z.Warmed39 U.vm ∧ U.heap = h0) (fun _ _ _ _ _ => True) (fun _ U o U' => ∃ v L, o = .returned v ∧ Q16i0 Z p0 p1 h0 n0 v U'.heap L ∧ FrameEnd U o U' L ({ frames := 0, cells := 0, slots := 0, locals := 0 } : Room).cells ({ frames := 0, cells := 0, slots := 0, locals := 0 } : Room).slots) := by
  refine MetFree.of_bodySF (Jvm.Free.JP.mathPlain rfl (by decide +kernel)) hisR ?_
  intro p e s m args below meth c s₁ Bd hml0 hP hK
  obtain ⟨rfl, hZ, hh⟩ := hP
  have hx := Bd.exec
  have hby := Bd.bytes
  have hml : c.maxLocals = 2 := hml0
  have hown : s.vm.findClass "java/lang/Math" = some m.cls := findClass_of_methodNamed Bd.named
  have hnm := (name_of_methodNamed Bd.named Bd.method).1
  have X0 : Stand p l e ({ frames := 0, cells := 0, slots := 0, locals := 0 } : Room) s m #[(.int p0), (.int p1)] below meth c s₁ [] 0 0 := Stand.of_body Bd
  have e0 : s₁.heap = h0 := by rw [← hh, Bd.state]; rfl
  have N0 := Fr.nil n0
  have pre0 : ∀ t, Steps p.tables e below (s₁.setTop (mkF m 0 #[iv p0, iv p1] [])) t → Steps p.tables e below (s₁.setTop (entryFrame m #[(.int p0), (.int p1)] 2)) t := fun t k => castTop (ef_16i0 m p0 p1) k
  have pre2 : ∀ t, Steps p.tables e below (s₁.setTop (mkF m 2 #[iv p0, iv p1] [(.int p1), (.int p0)])) t → Steps p.tables e below (s₁.setTop (entryFrame m #[(.int p0), (.int p1)] 2)) t := by
    intro t kt
    refine pre0 _ ?_
    show Steps p.tables e below (s₁.setTop (mkF m 0 #[iv p0, iv p1] [])) _
    refine XS.iloadN X0.here hx rfl (hb hby d16_0) rfl ?_
    refine XS.iloadN X0.here hx rfl (hb hby d16_1) rfl ?_
    exact kt
  have hc2_1 : ¬ (p1 < p0) := hlt
  have pre3 : ∀ t, Steps p.tables e below (s₁.setTop (mkF m 10 #[iv p0, iv p1] [(.int p0)])) t → Steps p.tables e below (s₁.setTop (entryFrame m #[(.int p0), (.int p1)] 2)) t := by
    intro t kt
    refine pre2 _ ?_
    show Steps p.tables e below (s₁.setTop (mkF m 2 #[iv p0, iv p1] [(.int p1), (.int p0)])) _
    refine XS.icmpNo X0.here hx rfl (hb hby d16_2) rfl (flt hc2_1).2.2.1 ?_
    refine XS.iloadN X0.here hx rfl (hb hby d16_5) rfl ?_
    refine XS.goto X0.here hx rfl (pc0 := 6) (pc' := 10) rfl (hb hby d16_6) (by decide) (by decide) ?_
    exact kt
  obtain ⟨fs, hr, hrun, hended, hW, hsame⟩ := X0.leave (v := some (.int p0)) (fun h => by rw [Bd.returns] at h; cases h)
  refine ⟨_, _, pre3 _ ?_, hrun, hended, _, _, rfl, ?_, ⟨_, rfl⟩, hW, hsame.mono (by decide) (by decide)⟩
  · show Steps p.tables e below (s₁.setTop (mkF m 10 #[iv p0, iv p1] [(.int p0)])) _
    exact retI X0 hx Bd.returns (hb hby d16_10) hr
  · show Q16i0 Z p0 p1 h0 n0 _ s₁.heap _
    rw [e0]
    exact ⟨rfl, N0, rfl⟩
theorem pn6 : plainName "java/util/Arrays" = true := by first | (simp [plainName, overriddenIn]; done) | decide +kernel
theorem d15_0 : decode jdk_65_method_131_code 0 = .ok (.iload_n 1, 1) := by decide +kernel
theorem d15_1 : decode jdk_65_method_131_code 1 = .ok (.iload_n 0, 1) := by decide +kernel
theorem d15_2 : decode jdk_65_method_131_code 2 = .ok (.if_icmp .ge 35, 3) := by decide +kernel
theorem d15_37 : decode jdk_65_method_131_code 37 = .ok (.return_, 1) := by decide +kernel
theorem ef_15 (m : MethodId) (x0 : Int32) (x1 : Int32) : entryFrame m #[(.int x0), (.int x1)] 2 = mkF m 0 #[.val (.int x0), .val (.int x1)] [] := by first | (simp [entryFrame, mkF, argsToLocals, Value.category]; done) | rfl
def Q15 (Z : State) (p0 : Int32) (p1 : Int32) (h0 : Heap) (n0 : Nat) (v : Option Value) (h : Heap) (L : List Loc) : Prop := v = none ∧ Fr n0 L ∧ h = h0
set_option maxRecDepth 65536 in
set_option maxHeartbeats 40000000 in
theorem rm15 (l : Launch) (Z : State) (a0 : Array Value) (hw : ∀ d ∈ tables_1, d.before a0 Z = true) (ws : List Jvm.Cond) (p0 : Int32) (p1 : Int32) (h0 : Heap) (n0 : Nat) (Z0 : n0 ≤ h0.size) (hlt : ¬ (p1 < p0)) :
    MetFree l (⟨"java/util/Arrays", "checkLength", "(II)V"⟩ : MethodName) (head1 (Jvm.Cond.code (⟨"java/util/Arrays", "checkLength", "(II)V"⟩ : MethodName) jdk_65_method_131_code 2 none :: ws) ({ frames := 0, cells := 0, slots := 0, locals := 0 } : Room)) (fun a U => a = #[(.int p0), (.int p1)] ∧ Z.Warmed39 U.vm ∧ U.heap = h0) (fun _ _ _ _ _ => True) (fun _ U o U' => ∃ v L, o = .returned v ∧ Q15 Z p0 p1 h0 n0 v U'.heap L ∧ FrameEnd U o U' L ({ frames := 0, cells := 0, slots := 0, locals := 0 } : Room).cells ({ frames := 0, cells := 0, slots := 0, locals := 0 } : Room).slots) := by
  refine MetFree.of_bodySF (plainFor_of_name pn6) hisR ?_
  intro p e s m args below meth c s₁ Bd hml0 hP hK
  obtain ⟨rfl, hZ, hh⟩ := hP
  have hx := Bd.exec
  have hby := Bd.bytes
  have hml : c.maxLocals = 2 := hml0
  have hown : s.vm.findClass "java/util/Arrays" = some m.cls := findClass_of_methodNamed Bd.named
  have hnm := (name_of_methodNamed Bd.named Bd.method).1
  have X0 : Stand p l e ({ frames := 0, cells := 0, slots := 0, locals := 0 } : Room) s m #[(.int p0), (.int p1)] below meth c s₁ [] 0 0 := Stand.of_body Bd
  have e0 : s₁.heap = h0 := by rw [← hh, Bd.state]; rfl
  have N0 := Fr.nil n0
  have pre0 : ∀ t, Steps p.tables e below (s₁.setTop (mkF m 0 #[iv p0, iv p1] [])) t → Steps p.tables e below (s₁.setTop (entryFrame m #[(.int p0), (.int p1)] 2)) t := fun t k => castTop (ef_15 m p0 p1) k
  have pre2 : ∀ t, Steps p.tables e below (s₁.setTop (mkF m 2 #[iv p0, iv p1] [(.int p0), (.int p1)])) t → Steps p.tables e below (s₁.setTop (entryFrame m #[(.int p0), (.int p1)] 2)) t := by
    intro t kt
    refine pre0 _ ?_
    show Steps p.tables e below (s₁.setTop (mkF m 0 #[iv p0, iv p1] [])) _
    refine XS.iloadN X0.here hx rfl (hb hby d15_0) rfl ?_
    refine XS.iloadN X0.here hx rfl (hb hby d15_1) rfl ?_
    exact kt
  have hc2_1 : ¬ (p1 < p0) := hlt
  have pre3 : ∀ t, Steps p.tables e below (s₁.setTop (mkF m 37 #[iv p0, iv p1] [])) t → Steps p.tables e below (s₁.setTop (entryFrame m #[(.int p0), (.int p1)] 2)) t := by
    intro t kt
    refine pre2 _ ?_
    show Steps p.tables e below (s₁.setTop (mkF m 2 #[iv p0, iv p1] [(.int p0), (.int p1)])) _
    refine XS.icmpYes X0.here hx rfl (pc0 := 2) (pc' := 37) rfl (hb hby d15_2) rfl (flt hc2_1).2.1 (by decide) (by decide) ?_
    exact kt
  obtain ⟨fs, hr, hrun, hended, hW, hsame⟩ := X0.leave (v := none) (fun _ => rfl)
  refine ⟨_, _, pre3 _ ?_, hrun, hended, _, _, rfl, ?_, ⟨_, rfl⟩, hW, hsame.mono (by decide) (by decide)⟩
  · show Steps p.tables e below (s₁.setTop (mkF m 37 #[iv p0, iv p1] [])) _
    exact X0.returnOut hx Bd.returns (hb hby d15_37) hr
  · show Q15 Z p0 p1 h0 n0 _ s₁.heap _
    rw [e0]
    exact ⟨rfl, N0, rfl⟩
theorem d14_0 : decode jdk_65_method_133_code 0 = .ok (.iload_n 1, 1) := by decide +kernel
theorem d14_1 : decode jdk_65_method_133_code 1 = .ok (.iload_n 2, 1) := by decide +kernel
theorem pd7 : parseMethodDescriptor "(II)V" = some ⟨[.int, .int], none⟩ := by decide +kernel
theorem d14_2 : decode jdk_65_method_133_code 2 = .ok (.invokestatic 343, 3) := by decide +kernel
theorem d14_5 : decode jdk_65_method_133_code 5 = .ok (.iload_n 2, 1) := by decide +kernel
theorem d14_6 : decode jdk_65_method_133_code 6 = .ok (.iload_n 1, 1) := by decide +kernel
theorem d14_7 : decode jdk_65_method_133_code 7 = .ok (.isub, 1) := by decide +kernel
theorem d14_8 : decode jdk_65_method_133_code 8 = .ok (.istore_n 3, 1) := by decide +kernel
theorem d14_9 : decode jdk_65_method_133_code 9 = .ok (.iload_n 3, 1) := by decide +kernel
theorem d14_10 : decode jdk_65_method_133_code 10 = .ok (.newarray .byte, 2) := by decide +kernel
theorem d14_12 : decode jdk_65_method_133_code 12 = .ok (.astore 4, 2) := by decide +kernel
theorem d14_14 : decode jdk_65_method_133_code 14 = .ok (.aload_n 0, 1) := by decide +kernel
theorem d14_15 : decode jdk_65_method_133_code 15 = .ok (.iload_n 1, 1) := by decide +kernel
theorem d14_16 : decode jdk_65_method_133_code 16 = .ok (.aload 4, 2) := by decide +kernel
theorem d14_18 : decode jdk_65_method_133_code 18 = .ok (.iconst 0, 1) := by decide +kernel
theorem d14_19 : decode jdk_65_method_133_code 19 = .ok (.aload_n 0, 1) := by decide +kernel
theorem d14_20 : decode jdk_65_method_133_code 20 = .ok (.arraylength, 1) := by decide +kernel
theorem d14_21 : decode jdk_65_method_133_code 21 = .ok (.iload_n 1, 1) := by decide +kernel
theorem d14_22 : decode jdk_65_method_133_code 22 = .ok (.isub, 1) := by decide +kernel
theorem d14_23 : decode jdk_65_method_133_code 23 = .ok (.iload_n 3, 1) := by decide +kernel
theorem pd8 : parseMethodDescriptor "(II)I" = some ⟨[.int, .int], some .int⟩ := by decide +kernel
theorem d14_24 : decode jdk_65_method_133_code 24 = .ok (.invokestatic 304, 3) := by decide +kernel
theorem d14_27 : decode jdk_65_method_133_code 27 = .ok (.invokestatic 150, 3) := by decide +kernel
theorem d14_30 : decode jdk_65_method_133_code 30 = .ok (.aload 4, 2) := by decide +kernel
theorem d14_32 : decode jdk_65_method_133_code 32 = .ok (.areturn, 1) := by decide +kernel
theorem ef_14i2_8 (m : MethodId) (x0 : Addr) (x1 : Int32) (x2 : Int32) : entryFrame m #[(.ref x0), (.int x1), (.int x2)] 5 = mkF m 0 #[.val (.ref x0), .val (.int x1), .val (.int x2), .unset, .unset] [] := by first | (simp [entryFrame, mkF, argsToLocals, Value.category]; done) | rfl
def Q14i2_8 (Z : State) (r0 : Addr) (kc : ClassId) (dd0 : Int32) (dd1 : Int32) (dd2 : Int32) (dd3 : Int32) (dd4 : Int32) (dd5 : Int32) (dd6 : Int32) (dd7 : Int32) (h0 : Heap) (n0 : Nat) (v : Option Value) (h : Heap) (L : List Loc) : Prop := ∃ y, v = some (.ref y) ∧ Fr n0 L ∧ Keep h0 h []
set_option maxRecDepth 65536 in
set_option maxHeartbeats 40000000 in
theorem rm14i2_8 (l : Launch) (Z : State) (a0 : Array Value) (hw : ∀ d ∈ tables_1, d.before a0 Z = true) (ws : List Jvm.Cond) (r0 : Addr) (kc : ClassId) (dd0 : Int32) (dd1 : Int32) (dd2 : Int32) (dd3 : Int32) (dd4 : Int32) (dd5 : Int32) (dd6 : Int32) (dd7 : Int32) (h0 : Heap) (n0 : Nat) (Z0 : n0 ≤ h0.size) (V_r0 : Arv Z h0 r0 kc .byte (8 : Int32) [(.int dd0), (.int dd1), (.int dd2), (.int dd3), (.int dd4), (.int dd5), (.int dd6), (.int dd7)] (.int (0 : Int32))) :
    MetFree l (⟨"java/util/Arrays", "copyOfRangeByte", "([BII)[B"⟩ : MethodName) (head1 (Jvm.Cond.code (⟨"java/util/Arrays", "copyOfRangeByte", "([BII)[B"⟩ : MethodName) jdk_65_method_133_code 5 (some (.array .byte)) :: ws) ({ frames := 1, cells := 1, slots := 6, locals := 18 } : Room)) (fun a U => a = #[(.ref r0), (.int (2 : Int32)), (.int (8 : Int32))] ∧ Z.Warmed39 U.vm ∧ U.heap = h0) (fun _ _ _ _ _ => True) (fun _ U o U' => ∃ v L, o = .returned v ∧ Q14i2_8 Z r0 kc dd0 dd1 dd2 dd3 dd4 dd5 dd6 dd7 h0 n0 v U'.heap L ∧ FrameEnd U o U' L ({ frames := 1, cells := 1, slots := 6, locals := 18 } : Room).cells ({ frames := 1, cells := 1, slots := 6, locals := 18 } : Room).slots) := by
  refine MetFree.of_bodySF (plainFor_of_name pn6) hisR ?_
  intro p e s m args below meth c s₁ Bd hml0 hP hK
  obtain ⟨rfl, hZ, hh⟩ := hP
  have hx := Bd.exec
  have hby := Bd.bytes
  have hml : c.maxLocals = 5 := hml0
  have hown : s.vm.findClass "java/util/Arrays" = some m.cls := findClass_of_methodNamed Bd.named
  have hnm := (name_of_methodNamed Bd.named Bd.method).1
  have X0 : Stand p l e ({ frames := 1, cells := 1, slots := 6, locals := 18 } : Room) s m #[(.ref r0), (.int (2 : Int32)), (.int (8 : Int32))] below meth c s₁ [] 0 0 := Stand.of_body Bd
  have e0 : s₁.heap = h0 := by rw [← hh, Bd.state]; rfl
  have N0 := Fr.nil n0
  have pre0 : ∀ t, Steps p.tables e below (s₁.setTop (mkF m 0 #[rv r0, iv (2 : Int32), iv (8 : Int32), .unset, .unset] [])) t → Steps p.tables e below (s₁.setTop (entryFrame m #[(.ref r0), (.int (2 : Int32)), (.int (8 : Int32))] 5)) t := fun t k => castTop (ef_14i2_8 m r0 (2 : Int32) (8 : Int32)) k
  have pre1 : ∀ t, Steps p.tables e below (s₁.setTop (mkF m 2 #[rv r0, iv (2 : Int32), iv (8 : Int32), .unset, .unset] [(.int (8 : Int32)), (.int (2 : Int32))])) t → Steps p.tables e below (s₁.setTop (entryFrame m #[(.ref r0), (.int (2 : Int32)), (.int (8 : Int32))] 5)) t := by
    intro t kt
    refine pre0 _ ?_
    show Steps p.tables e below (s₁.setTop (mkF m 0 #[rv r0, iv (2 : Int32), iv (8 : Int32), .unset, .unset] [])) _
    refine XS.iloadN X0.here hx rfl (hb hby d14_0) rfl ?_
    refine XS.iloadN X0.here hx rfl (hb hby d14_1) rfl ?_
    exact kt
  obtain ⟨_, _, ⟨T2, L2, k2, n2⟩, -, X2, ⟨Lc2, hQ2, l2, y2, z2⟩, st2⟩ := Jvm.LawKit.callS X0 hx (y := (⟨"java/util/Arrays", "checkLength", "(II)V"⟩ : MethodName)) hown (mvT hZ (hw _ (List.mem_of_getElem? (i := 74) rfl))) (mvT hZ (hw _ (List.mem_of_getElem? (i := 75) rfl))) (mvT hZ (hw _ (List.mem_of_getElem? (i := 69) rfl))) (mvT hZ (hw _ (List.mem_of_getElem? (i := 76) rfl))) (by decide) (backOf (W := 0) (rm15 l Z a0 hw [] (2 : Int32) (8 : Int32) h0 n0 (Nat.le_trans Z0 (Keep.refl h0 []).1) (by decide)) hZ (hw _ (List.mem_of_getElem? (i := 76) rfl)) (hw _ (List.mem_of_getElem? (i := 69) rfl)) (by decide) (by decide)) (g := (mkF m 2 #[rv r0, iv (2 : Int32), iv (8 : Int32), .unset, .unset] [(.int (8 : Int32)), (.int (2 : Int32))])) rfl (by rw [hml]; rfl) (argsL := [(.int (2 : Int32)), (.int (8 : Int32))]) (rest := []) (lenOf pd7 rfl) rfl (by show 2 * 0 + _ ≤ _; exact Nat.le_of_eq rfl) (hb hby d14_2) (fun _ _ => ⟨rfl, e0, (by decide : 0 + 0 ≤ _), (by decide : 0 + 0 ≤ _)⟩)
  dsimp only [Pt.U, Pt.locs, Pt.cells, Pt.slots] at X2 l2 y2 z2 st2 hQ2
  subst l2 y2 z2
  obtain ⟨rfl, N2q, hh2⟩ := hQ2
  have N2 := Fr.app N0 N2q
  have pre3 : ∀ t, Steps p.tables e below (T2.setTop (mkF m 10 #[rv r0, iv (2 : Int32), iv (8 : Int32), iv (6 : Int32), .unset] [(.int (6 : Int32))])) t → Steps p.tables e below (s₁.setTop (entryFrame m #[(.ref r0), (.int (2 : Int32)), (.int (8 : Int32))] 5)) t := by
    intro t kt
    refine pre1 _ ?_
    show Steps p.tables e below (s₁.setTop (mkF m 2 #[rv r0, iv (2 : Int32), iv (8 : Int32), .unset, .unset] [(.int (8 : Int32)), (.int (2 : Int32))])) _
    refine st2 _ ?_
    show Steps p.tables e below (T2.setTop (mkF m 5 #[rv r0, iv (2 : Int32), iv (8 : Int32), .unset, .unset] [])) _
    refine XS.iloadN X2.here hx rfl (hb hby d14_5) rfl ?_
    refine XS.iloadN X2.here hx rfl (hb hby d14_6) rfl ?_
    refine XS.isub X2.here hx rfl (hb hby d14_7) rfl ?_
    show Steps p.tables e below (T2.setTop (mkF m 8 #[rv r0, iv (2 : Int32), iv (8 : Int32), .unset, .unset] [(.int ((8 : Int32) - (2 : Int32)))])) _
    rw [show ((8 : Int32) - (2 : Int32)) = (6 : Int32) from (by decide)]
    show Steps p.tables e below (T2.setTop (mkF m 8 #[rv r0, iv (2 : Int32), iv (8 : Int32), .unset, .unset] [(.int (6 : Int32))])) _
    refine XS.istoreN X2.here hx rfl (hb hby d14_8) rfl (l' := #[rv r0, iv (2 : Int32), iv (8 : Int32), iv (6 : Int32), .unset]) rfl ?_
    refine XS.iloadN X2.here hx rfl (hb hby d14_9) rfl ?_
    exact kt
  obtain ⟨T4, h4, k4, X4, e4, E4, A4, Ex4, st4⟩ := newPE X2 hx hZ (hw _ (List.mem_of_getElem? (i := 4) rfl)) hh2 (g := (mkF m 10 #[rv r0, iv (2 : Int32), iv (8 : Int32), iv (6 : Int32), .unset] [(.int (6 : Int32))])) rfl (hb hby d14_10) rfl (by decide) (cap := 6) (by decide) (by decide) (by decide) (by decide) (ad := "[B") rfl
  obtain ⟨b4, g4⟩ : ∃ z, z = h0.size := ⟨_, rfl⟩
  rw [← g4] at A4 Ex4 st4
  have g_b4 : n0 ≤ b4 := Nat.le_trans (Nat.le_trans Z0 (Keep.refl h0 []).1) (Nat.le_of_eq g4.symm)
  have sz_b4 : h0.size ≤ b4 := Nat.le_trans (Keep.refl h0 []).1 (Nat.le_of_eq g4.symm)
  have V_b4 : Arv Z h4 b4 k4 .byte (6 : Int32) [(.int (0 : Int32)), (.int (0 : Int32)), (.int (0 : Int32)), (.int (0 : Int32)), (.int (0 : Int32)), (.int (0 : Int32))] (.int (0 : Int32)) := (Arv.new A4 (by decide)).pad (pad_rep [] (.int (0 : Int32)) 6)
  have K4 : Keep h0 h4 [] := (Keep.refl h0 []).ext E4
  obtain ⟨cl5, Ar5, -, S5, M5, -, -⟩ := id (V_r0.ext E4)
  have pre6 : ∀ t, Steps p.tables e below (T4.setTop (mkF m 24 #[rv r0, iv (2 : Int32), iv (8 : Int32), iv (6 : Int32), rv b4] [(.int (6 : Int32)), (.int (6 : Int32)), (.int (0 : Int32)), (.ref b4), (.int (2 : Int32)), (.ref r0)])) t → Steps p.tables e below (s₁.setTop (entryFrame m #[(.ref r0), (.int (2 : Int32)), (.int (8 : Int32))] 5)) t := by
    intro t kt
    refine pre3 _ ?_
    show Steps p.tables e below (T2.setTop (mkF m 10 #[rv r0, iv (2 : Int32), iv (8 : Int32), iv (6 : Int32), .unset] [(.int (6 : Int32))])) _
    refine st4 _ ?_
    show Steps p.tables e below (T4.setTop (mkF m 12 #[rv r0, iv (2 : Int32), iv (8 : Int32), iv (6 : Int32), .unset] [(.ref b4)])) _
    refine XS.astore X4.here hx rfl (hb hby d14_12) rfl rfl (l' := #[rv r0, iv (2 : Int32), iv (8 : Int32), iv (6 : Int32), rv b4]) rfl ?_
    refine XS.aloadN X4.here hx rfl (hb hby d14_14) rfl rfl ?_
    refine XS.iloadN X4.here hx rfl (hb hby d14_15) rfl ?_
    refine XS.aload X4.here hx rfl (hb hby d14_16) rfl rfl ?_
    refine XS.iconst X4.here hx rfl (hb hby d14_18) ?_
    refine XS.aloadN X4.here hx rfl (hb hby d14_19) rfl rfl ?_
    refine X4.arraylength hx (by rw [e4]; exact Ar5.1) (State.isArrayOf_alike hZ.alike Ar5.2.1) (g := (mkF m 20 #[rv r0, iv (2 : Int32), iv (8 : Int32), iv (6 : Int32), rv b4] [(.ref r0), (.int (0 : Int32)), (.ref b4), (.int (2 : Int32)), (.ref r0)])) rfl rfl (hb hby d14_20) _ ?_
    rw [len_of S5 M5]
    show Steps p.tables e below (T4.setTop (mkF m 21 #[rv r0, iv (2 : Int32), iv (8 : Int32), iv (6 : Int32), rv b4] [(.int (8 : Int32)), (.int (0 : Int32)), (.ref b4), (.int (2 : Int32)), (.ref r0)])) _
    refine XS.iloadN X4.here hx rfl (hb hby d14_21) rfl ?_
    refine XS.isub X4.here hx rfl (hb hby d14_22) rfl ?_
    show Steps p.tables e below (T4.setTop (mkF m 23 #[rv r0, iv (2 : Int32), iv (8 : Int32), iv (6 : Int32), rv b4] [(.int ((8 : Int32) - (2 : Int32))), (.int (0 : Int32)), (.ref b4), (.int (2 : Int32)), (.ref r0)])) _
    rw [show ((8 : Int32) - (2 : Int32)) = (6 : Int32) from (by decide)]
    show Steps p.tables e below (T4.setTop (mkF m 23 #[rv r0, iv (2 : Int32), iv (8 : Int32), iv (6 : Int32), rv b4] [(.int (6 : Int32)), (.int (0 : Int32)), (.ref b4), (.int (2 : Int32)), (.ref r0)])) _
    refine XS.iloadN X4.here hx rfl (hb hby d14_23) rfl ?_
    exact kt
  obtain ⟨_, _, ⟨T7, L7, k7, n7⟩, -, X7, ⟨Lc7, hQ7, l7, y7, z7⟩, st7⟩ := Jvm.LawKit.callS X4 hx (y := (⟨"java/lang/Math", "min", "(II)I"⟩ : MethodName)) hown (mvT hZ (hw _ (List.mem_of_getElem? (i := 77) rfl))) (mvT hZ (hw _ (List.mem_of_getElem? (i := 78) rfl))) (mvT hZ (hw _ (List.mem_of_getElem? (i := 79) rfl))) (mvT hZ (hw _ (List.mem_of_getElem? (i := 80) rfl))) (by decide) (backOf (W := 4) (rm16i0 l Z a0 hw [] (6 : Int32) (6 : Int32) h4 n0 (Nat.le_trans Z0 K4.1) (by decide)) hZ (hw _ (List.mem_of_getElem? (i := 80) rfl)) (hw _ (List.mem_of_getElem? (i := 79) rfl)) (by decide) (by decide)) (g := (mkF m 24 #[rv r0, iv (2 : Int32), iv (8 : Int32), iv (6 : Int32), rv b4] [(.int (6 : Int32)), (.int (6 : Int32)), (.int (0 : Int32)), (.ref b4), (.int (2 : Int32)), (.ref r0)])) rfl (by rw [hml]; rfl) (argsL := [(.int (6 : Int32)), (.int (6 : Int32))]) (rest := [(.int (0 : Int32)), (.ref b4), (.int (2 : Int32)), (.ref r0)]) (lenOf pd8 rfl) rfl (by show 2 * 0 + _ ≤ _; exact Nat.le_of_eq rfl) (hb hby d14_24) (fun _ _ => ⟨rfl, e4, (by decide : 1 + 0 ≤ _), (by decide : 6 + 0 ≤ _)⟩)
  dsimp only [Pt.U, Pt.locs, Pt.cells, Pt.slots] at X7 l7 y7 z7 st7 hQ7
  subst l7 y7 z7
  obtain ⟨rfl, N7q, hh7⟩ := hQ7
  have N7 := Fr.app N2 N7q
  have pre8 : ∀ t, Steps p.tables e below (T7.setTop (mkF m 27 #[rv r0, iv (2 : Int32), iv (8 : Int32), iv (6 : Int32), rv b4] [(.int (6 : Int32)), (.int (0 : Int32)), (.ref b4), (.int (2 : Int32)), (.ref r0)])) t → Steps p.tables e below (s₁.setTop (entryFrame m #[(.ref r0), (.int (2 : Int32)), (.int (8 : Int32))] 5)) t := by
    intro t kt
    refine pre6 _ ?_
    show Steps p.tables e below (T4.setTop (mkF m 24 #[rv r0, iv (2 : Int32), iv (8 : Int32), iv (6 : Int32), rv b4] [(.int (6 : Int32)), (.int (6 : Int32)), (.int (0 : Int32)), (.ref b4), (.int (2 : Int32)), (.ref r0)])) _
    refine st7 _ ?_
    exact kt
  obtain ⟨T9, h9, L9, X9, e9, N9, Kc9, Vc9, st9⟩ := cpA X7 hx hZ hown (hw _ (List.mem_of_getElem? (i := 81) rfl)) (hw _ (List.mem_of_getElem? (i := 84) rfl)) (hw _ (List.mem_of_getElem? (i := 82) rfl)) (hw _ (List.mem_of_getElem? (i := 83) rfl)) hh7 (V_r0.ext E4) V_b4 (Or.inl ⟨rfl, rfl⟩) (by decide) (by decide) (by decide) (by decide) (by decide) rfl (by decide) N7 g_b4 (g := (mkF m 27 #[rv r0, iv (2 : Int32), iv (8 : Int32), iv (6 : Int32), rv b4] [(.int (6 : Int32)), (.int (0 : Int32)), (.ref b4), (.int (2 : Int32)), (.ref r0)])) rfl (by rw [hml]; rfl) rfl (hb hby d14_27) (by decide) (W := 0) (by show 2 * 0 + _ ≤ _; exact Nat.le_of_eq rfl) (by decide)
  have K9 : Keep h0 h9 [] := K4.trans Kc9 (allS (Or.inr sz_b4) all0)
  have V9 : Arv Z h9 b4 k4 .byte (6 : Int32) [(.int dd2), (.int dd3), (.int dd4), (.int dd5), (.int dd6), (.int dd7)] (.int (0 : Int32)) := Vc9
  have pre10 : ∀ t, Steps p.tables e below (T9.setTop (mkF m 32 #[rv r0, iv (2 : Int32), iv (8 : Int32), iv (6 : Int32), rv b4] [(.ref b4)])) t → Steps p.tables e below (s₁.setTop (entryFrame m #[(.ref r0), (.int (2 : Int32)), (.int (8 : Int32))] 5)) t := by
    intro t kt
    refine pre8 _ ?_
    show Steps p.tables e below (T7.setTop (mkF m 27 #[rv r0, iv (2 : Int32), iv (8 : Int32), iv (6 : Int32), rv b4] [(.int (6 : Int32)), (.int (0 : Int32)), (.ref b4), (.int (2 : Int32)), (.ref r0)])) _
    refine st9 _ ?_
    show Steps p.tables e below (T9.setTop (mkF m 30 #[rv r0, iv (2 : Int32), iv (8 : Int32), iv (6 : Int32), rv b4] [])) _
    refine XS.aload X9.here hx rfl (hb hby d14_30) rfl rfl ?_
    exact kt
  obtain ⟨fs, hr, hrun, hended, hW, hsame⟩ := X9.leave (v := some (.ref b4)) (fun h => by rw [Bd.returns] at h; cases h)
  refine ⟨_, _, pre10 _ ?_, hrun, hended, _, _, rfl, ?_, ⟨_, rfl⟩, hW, hsame.mono (by decide) (by decide)⟩
  · show Steps p.tables e below (T9.setTop (mkF m 32 #[rv r0, iv (2 : Int32), iv (8 : Int32), iv (6 : Int32), rv b4] [(.ref b4)])) _
    jvm_step X9.here [X9.here.top, hx, (hb hby d14_32), X9.method', Bd.returns, Value.isRef, FieldType.isReference]
    first | (intro acts; rw [hr _ acts rfl rfl rfl]) | rw [hr _ _ rfl rfl rfl]
    exact Steps.refl _
  · show Q14i2_8 Z r0 kc dd0 dd1 dd2 dd3 dd4 dd5 dd6 dd7 h0 n0 _ T9.heap _
    rw [e9]
    exact ⟨b4, rfl, N9, K9⟩
theorem d13_0 : decode jdk_65_method_132_code 0 = .ok (.iload_n 1, 1) := by decide +kernel
theorem d13_1 : decode jdk_65_method_132_code 1 = .ok (.ifCond .ne 9, 3) := by decide +kernel
theorem d13_10 : decode jdk_65_method_132_code 10 = .ok (.aload_n 0, 1) := by decide +kernel
theorem d13_11 : decode jdk_65_method_132_code 11 = .ok (.iload_n 1, 1) := by decide +kernel
theorem d13_12 : decode jdk_65_method_132_code 12 = .ok (.iload_n 2, 1) := by decide +kernel
theorem pd9 : parseMethodDescriptor "([BII)[B" = some ⟨[(.array .byte), .int, .int], some (.array .byte)⟩ := by decide +kernel
theorem d13_13 : decode jdk_65_method_132_code 13 = .ok (.invokestatic 339, 3) := by decide +kernel
theorem d13_16 : decode jdk_65_method_132_code 16 = .ok (.areturn, 1) := by decide +kernel
theorem ef_13i2_8 (m : MethodId) (x0 : Addr) (x1 : Int32) (x2 : Int32) : entryFrame m #[(.ref x0), (.int x1), (.int x2)] 3 = mkF m 0 #[.val (.ref x0), .val (.int x1), .val (.int x2)] [] := by first | (simp [entryFrame, mkF, argsToLocals, Value.category]; done) | rfl
def Q13i2_8 (Z : State) (r0 : Addr) (kc : ClassId) (dd0 : Int32) (dd1 : Int32) (dd2 : Int32) (dd3 : Int32) (dd4 : Int32) (dd5 : Int32) (dd6 : Int32) (dd7 : Int32) (h0 : Heap) (n0 : Nat) (v : Option Value) (h : Heap) (L : List Loc) : Prop := ∃ y, v = some (.ref y) ∧ Fr n0 L ∧ Keep h0 h []
set_option maxRecDepth 65536 in
set_option maxHeartbeats 40000000 in
theorem rm13i2_8 (l : Launch) (Z : State) (a0 : Array Value) (hw : ∀ d ∈ tables_1, d.before a0 Z = true) (ws : List Jvm.Cond) (r0 : Addr) (kc : ClassId) (dd0 : Int32) (dd1 : Int32) (dd2 : Int32) (dd3 : Int32) (dd4 : Int32) (dd5 : Int32) (dd6 : Int32) (dd7 : Int32) (h0 : Heap) (n0 : Nat) (Z0 : n0 ≤ h0.size) (V_r0 : Arv Z h0 r0 kc .byte (8 : Int32) [(.int dd0), (.int dd1), (.int dd2), (.int dd3), (.int dd4), (.int dd5), (.int dd6), (.int dd7)] (.int (0 : Int32))) :
    MetFree l (⟨"java/util/Arrays", "copyOfRange", "([BII)[B"⟩ : MethodName) (head1 (Jvm.Cond.code (⟨"java/util/Arrays", "copyOfRange", "([BII)[B"⟩ : MethodName) jdk_65_method_132_code 3 (some (.array .byte)) :: ws) ({ frames := 2, cells := 1, slots := 6, locals := 34 } : Room)) (fun a U => a = #[(.ref r0), (.int (2 : Int32)), (.int (8 : Int32))] ∧ Z.Warmed39 U.vm ∧ U.heap = h0) (fun _ _ _ _ _ => True) (fun _ U o U' => ∃ v L, o = .returned v ∧ Q13i2_8 Z r0 kc dd0 dd1 dd2 dd3 dd4 dd5 dd6 dd7 h0 n0 v U'.heap L ∧ FrameEnd U o U' L ({ frames := 2, cells := 1, slots := 6, locals := 34 } : Room).cells ({ frames := 2, cells := 1, slots := 6, locals := 34 } : Room).slots) := by
  refine MetFree.of_bodySF (plainFor_of_name pn6) hisR ?_
  intro p e s m args below meth c s₁ Bd hml0 hP hK
  obtain ⟨rfl, hZ, hh⟩ := hP
  have hx := Bd.exec
  have hby := Bd.bytes
  have hml : c.maxLocals = 3 := hml0
  have hown : s.vm.findClass "java/util/Arrays" = some m.cls := findClass_of_methodNamed Bd.named
  have hnm := (name_of_methodNamed Bd.named Bd.method).1
  have X0 : Stand p l e ({ frames := 2, cells := 1, slots := 6, locals := 34 } : Room) s m #[(.ref r0), (.int (2 : Int32)), (.int (8 : Int32))] below meth c s₁ [] 0 0 := Stand.of_body Bd
  have e0 : s₁.heap = h0 := by rw [← hh, Bd.state]; rfl
  have N0 := Fr.nil n0
  have pre0 : ∀ t, Steps p.tables e below (s₁.setTop (mkF m 0 #[rv r0, iv (2 : Int32), iv (8 : Int32)] [])) t → Steps p.tables e below (s₁.setTop (entryFrame m #[(.ref r0), (.int (2 : Int32)), (.int (8 : Int32))] 3)) t := fun t k => castTop (ef_13i2_8 m r0 (2 : Int32) (8 : Int32)) k
  have pre1 : ∀ t, Steps p.tables e below (s₁.setTop (mkF m 13 #[rv r0, iv (2 : Int32), iv (8 : Int32)] [(.int (8 : Int32)), (.int (2 : Int32)), (.ref r0)])) t → Steps p.tables e below (s₁.setTop (entryFrame m #[(.ref r0), (.int (2 : Int32)), (.int (8 : Int32))] 3)) t := by
    intro t kt
    refine pre0 _ ?_
    show Steps p.tables e below (s₁.setTop (mkF m 0 #[rv r0, iv (2 : Int32), iv (8 : Int32)] [])) _
    refine XS.iloadN X0.here hx rfl (hb hby d13_0) rfl ?_
    refine XS.ifYes X0.here hx rfl (pc0 := 1) (pc' := 10) rfl (hb hby d13_1) rfl ((if0 _ _).trans (feq (by decide)).2) (by decide) (by decide) ?_
    refine XS.aloadN X0.here hx rfl (hb hby d13_10) rfl rfl ?_
    refine XS.iloadN X0.here hx rfl (hb hby d13_11) rfl ?_
    refine XS.iloadN X0.here hx rfl (hb hby d13_12) rfl ?_
    exact kt
  obtain ⟨_, _, ⟨T2, L2, k2, n2⟩, -, X2, ⟨Lc2, hQ2, l2, y2, z2⟩, st2⟩ := Jvm.LawKit.callS X0 hx (y := (⟨"java/util/Arrays", "copyOfRangeByte", "([BII)[B"⟩ : MethodName)) hown (mvT hZ (hw _ (List.mem_of_getElem? (i := 71) rfl))) (mvT hZ (hw _ (List.mem_of_getElem? (i := 72) rfl))) (mvT hZ (hw _ (List.mem_of_getElem? (i := 69) rfl))) (mvT hZ (hw _ (List.mem_of_getElem? (i := 73) rfl))) (by decide) (backOf (W := 0) (rm14i2_8 l Z a0 hw [] r0 kc dd0 dd1 dd2 dd3 dd4 dd5 dd6 dd7 h0 n0 (Nat.le_trans Z0 (Keep.refl h0 []).1) V_r0) hZ (hw _ (List.mem_of_getElem? (i := 73) rfl)) (hw _ (List.mem_of_getElem? (i := 69) rfl)) (by decide) (by decide)) (g := (mkF m 13 #[rv r0, iv (2 : Int32), iv (8 : Int32)] [(.int (8 : Int32)), (.int (2 : Int32)), (.ref r0)])) rfl (by rw [hml]; rfl) (argsL := [(.ref r0), (.int (2 : Int32)), (.int (8 : Int32))]) (rest := []) (lenOf pd9 rfl) rfl (by show 2 * 0 + _ ≤ _; exact Nat.le_of_eq rfl) (hb hby d13_13) (fun _ _ => ⟨rfl, e0, (by decide : 0 + 1 ≤ _), (by decide : 0 + 6 ≤ _)⟩)
  dsimp only [Pt.U, Pt.locs, Pt.cells, Pt.slots] at X2 l2 y2 z2 st2 hQ2
  subst l2 y2 z2
  obtain ⟨y2, rfl, N2q, Kc2⟩ := hQ2
  have N2 := Fr.app N0 N2q
  have K2 : Keep h0 T2.heap [] := (Keep.refl h0 []).trans Kc2 all0
  have pre3 : ∀ t, Steps p.tables e below (T2.setTop (mkF m 16 #[rv r0, iv (2 : Int32), iv (8 : Int32)] [(.ref y2)])) t → Steps p.tables e below (s₁.setTop (entryFrame m #[(.ref r0), (.int (2 : Int32)), (.int (8 : Int32))] 3)) t := by
    intro t kt
    refine pre1 _ ?_
    show Steps p.tables e below (s₁.setTop (mkF m 13 #[rv r0, iv (2 : Int32), iv (8 : Int32)] [(.int (8 : Int32)), (.int (2 : Int32)), (.ref r0)])) _
    refine st2 _ ?_
    exact kt
  obtain ⟨fs, hr, hrun, hended, hW, hsame⟩ := X2.leave (v := some (.ref y2)) (fun h => by rw [Bd.returns] at h; cases h)
  refine ⟨_, _, pre3 _ ?_, hrun, hended, _, _, rfl, ?_, ⟨_, rfl⟩, hW, hsame.mono (by decide) (by decide)⟩
  · show Steps p.tables e below (T2.setTop (mkF m 16 #[rv r0, iv (2 : Int32), iv (8 : Int32)] [(.ref y2)])) _
    jvm_step X2.here [X2.here.top, hx, (hb hby d13_16), X2.method', Bd.returns, Value.isRef, FieldType.isReference]
    first | (intro acts; rw [hr _ acts rfl rfl rfl]) | rw [hr _ _ rfl rfl rfl]
    exact Steps.refl _
  · show Q13i2_8 Z r0 kc dd0 dd1 dd2 dd3 dd4 dd5 dd6 dd7 h0 n0 _ T2.heap _
    exact ⟨y2, rfl, N2, K2⟩

theorem ef_14i2_4 (m : MethodId) (x0 : Addr) (x1 : Int32) (x2 : Int32) : entryFrame m #[(.ref x0), (.int x1), (.int x2)] 5 = mkF m 0 #[.val (.ref x0), .val (.int x1), .val (.int x2), .unset, .unset] [] := by first | (simp [entryFrame, mkF, argsToLocals, Value.category]; done) | rfl
def Q14i2_4 (Z : State) (r0 : Addr) (kc : ClassId) (dd0 : Int32) (dd1 : Int32) (dd2 : Int32) (dd3 : Int32) (dd4 : Int32) (dd5 : Int32) (dd6 : Int32) (dd7 : Int32) (h0 : Heap) (n0 : Nat) (v : Option Value) (h : Heap) (L : List Loc) : Prop := ∃ y, v = some (.ref y) ∧ Fr n0 L ∧ Keep h0 h []
set_option maxRecDepth 65536 in
set_option maxHeartbeats 40000000 in
theorem rm14i2_4 (l : Launch) (Z : State) (a0 : Array Value) (hw : ∀ d ∈ tables_1, d.before a0 Z = true) (ws : List Jvm.Cond) (r0 : Addr) (kc : ClassId) (dd0 : Int32) (dd1 : Int32) (dd2 : Int32) (dd3 : Int32) (dd4 : Int32) (dd5 : Int32) (dd6 : Int32) (dd7 : Int32) (h0 : Heap) (n0 : Nat) (Z0 : n0 ≤ h0.size) (V_r0 : Arv Z h0 r0 kc .byte (8 : Int32) [(.int dd0), (.int dd1), (.int dd2), (.int dd3), (.int dd4), (.int dd5), (.int dd6), (.int dd7)] (.int (0 : Int32))) :
    MetFree l (⟨"java/util/Arrays", "copyOfRangeByte", "([BII)[B"⟩ : MethodName) (head1 (Jvm.Cond.code (⟨"java/util/Arrays", "copyOfRangeByte", "([BII)[B"⟩ : MethodName) jdk_65_method_133_code 5 (some (.array .byte)) :: ws) ({ frames := 1, cells := 1, slots := 2, locals := 18 } : Room)) (fun a U => a = #[(.ref r0), (.int (2 : Int32)), (.int (4 : Int32))] ∧ Z.Warmed39 U.vm ∧ U.heap = h0) (fun _ _ _ _ _ => True) (fun _ U o U' => ∃ v L, o = .returned v ∧ Q14i2_4 Z r0 kc dd0 dd1 dd2 dd3 dd4 dd5 dd6 dd7 h0 n0 v U'.heap L ∧ FrameEnd U o U' L ({ frames := 1, cells := 1, slots := 2, locals := 18 } : Room).cells ({ frames := 1, cells := 1, slots := 2, locals := 18 } : Room).slots) := by
  refine MetFree.of_bodySF (plainFor_of_name pn6) hisR ?_
  intro p e s m args below meth c s₁ Bd hml0 hP hK
  obtain ⟨rfl, hZ, hh⟩ := hP
  have hx := Bd.exec
  have hby := Bd.bytes
  have hml : c.maxLocals = 5 := hml0
  have hown : s.vm.findClass "java/util/Arrays" = some m.cls := findClass_of_methodNamed Bd.named
  have hnm := (name_of_methodNamed Bd.named Bd.method).1
  have X0 : Stand p l e ({ frames := 1, cells := 1, slots := 2, locals := 18 } : Room) s m #[(.ref r0), (.int (2 : Int32)), (.int (4 : Int32))] below meth c s₁ [] 0 0 := Stand.of_body Bd
  have e0 : s₁.heap = h0 := by rw [← hh, Bd.state]; rfl
  have N0 := Fr.nil n0
  have pre0 : ∀ t, Steps p.tables e below (s₁.setTop (mkF m 0 #[rv r0, iv (2 : Int32), iv (4 : Int32), .unset, .unset] [])) t → Steps p.tables e below (s₁.setTop (entryFrame m #[(.ref r0), (.int (2 : Int32)), (.int (4 : Int32))] 5)) t := fun t k => castTop (ef_14i2_4 m r0 (2 : Int32) (4 : Int32)) k
  have pre1 : ∀ t, Steps p.tables e below (s₁.setTop (mkF m 2 #[rv r0, iv (2 : Int32), iv (4 : Int32), .unset, .unset] [(.int (4 : Int32)), (.int (2 : Int32))])) t → Steps p.tables e below (s₁.setTop (entryFrame m #[(.ref r0), (.int (2 : Int32)), (.int (4 : Int32))] 5)) t := by
    intro t kt
    refine pre0 _ ?_
    show Steps p.tables e below (s₁.setTop (mkF m 0 #[rv r0, iv (2 : Int32), iv (4 : Int32), .unset, .unset] [])) _
    refine XS.iloadN X0.here hx rfl (hb hby d14_0) rfl ?_
    refine XS.iloadN X0.here hx rfl (hb hby d14_1) rfl ?_
    exact kt
  obtain ⟨_, _, ⟨T2, L2, k2, n2⟩, -, X2, ⟨Lc2, hQ2, l2, y2, z2⟩, st2⟩ := Jvm.LawKit.callS X0 hx (y := (⟨"java/util/Arrays", "checkLength", "(II)V"⟩ : MethodName)) hown (mvT hZ (hw _ (List.mem_of_getElem? (i := 74) rfl))) (mvT hZ (hw _ (List.mem_of_getElem? (i := 75) rfl))) (mvT hZ (hw _ (List.mem_of_getElem? (i := 69) rfl))) (mvT hZ (hw _ (List.mem_of_getElem? (i := 76) rfl))) (by decide) (backOf (W := 0) (rm15 l Z a0 hw [] (2 : Int32) (4 : Int32) h0 n0 (Nat.le_trans Z0 (Keep.refl h0 []).1) (by decide)) hZ (hw _ (List.mem_of_getElem? (i := 76) rfl)) (hw _ (List.mem_of_getElem? (i := 69) rfl)) (by decide) (by decide)) (g := (mkF m 2 #[rv r0, iv (2 : Int32), iv (4 : Int32), .unset, .unset] [(.int (4 : Int32)), (.int (2 : Int32))])) rfl (by rw [hml]; rfl) (argsL := [(.int (2 : Int32)), (.int (4 : Int32))]) (rest := []) (lenOf pd7 rfl) rfl (by show 2 * 0 + _ ≤ _; exact Nat.le_of_eq rfl) (hb hby d14_2) (fun _ _ => ⟨rfl, e0, (by decide : 0 + 0 ≤ _), (by decide : 0 + 0 ≤ _)⟩)
  dsimp only [Pt.U, Pt.locs, Pt.cells, Pt.slots] at X2 l2 y2 z2 st2 hQ2
  subst l2 y2 z2
  obtain ⟨rfl, N2q, hh2⟩ := hQ2
  have N2 := Fr.app N0 N2q
  have pre3 : ∀ t, Steps p.tables e below (T2.setTop (mkF m 10 #[rv r0, iv (2 : Int32), iv (4 : Int32), iv (2 : Int32), .unset] [(.int (2 : Int32))])) t → Steps p.tables e below (s₁.setTop (entryFrame m #[(.ref r0), (.int (2 : Int32)), (.int (4 : Int32))] 5)) t := by
    intro t kt
    refine pre1 _ ?_
    show Steps p.tables e below (s₁.setTop (mkF m 2 #[rv r0, iv (2 : Int32), iv (4 : Int32), .unset, .unset] [(.int (4 : Int32)), (.int (2 : Int32))])) _
    refine st2 _ ?_
    show Steps p.tables e below (T2.setTop (mkF m 5 #[rv r0, iv (2 : Int32), iv (4 : Int32), .unset, .unset] [])) _
    refine XS.iloadN X2.here hx rfl (hb hby d14_5) rfl ?_
    refine XS.iloadN X2.here hx rfl (hb hby d14_6) rfl ?_
    refine XS.isub X2.here hx rfl (hb hby d14_7) rfl ?_
    show Steps p.tables e below (T2.setTop (mkF m 8 #[rv r0, iv (2 : Int32), iv (4 : Int32), .unset, .unset] [(.int ((4 : Int32) - (2 : Int32)))])) _
    rw [show ((4 : Int32) - (2 : Int32)) = (2 : Int32) from (by decide)]
    show Steps p.tables e below (T2.setTop (mkF m 8 #[rv r0, iv (2 : Int32), iv (4 : Int32), .unset, .unset] [(.int (2 : Int32))])) _
    refine XS.istoreN X2.here hx rfl (hb hby d14_8) rfl (l' := #[rv r0, iv (2 : Int32), iv (4 : Int32), iv (2 : Int32), .unset]) rfl ?_
    refine XS.iloadN X2.here hx rfl (hb hby d14_9) rfl ?_
    exact kt
  obtain ⟨T4, h4, k4, X4, e4, E4, A4, Ex4, st4⟩ := newPE X2 hx hZ (hw _ (List.mem_of_getElem? (i := 4) rfl)) hh2 (g := (mkF m 10 #[rv r0, iv (2 : Int32), iv (4 : Int32), iv (2 : Int32), .unset] [(.int (2 : Int32))])) rfl (hb hby d14_10) rfl (by decide) (cap := 2) (by decide) (by decide) (by decide) (by decide) (ad := "[B") rfl
  obtain ⟨b4, g4⟩ : ∃ z, z = h0.size := ⟨_, rfl⟩
  rw [← g4] at A4 Ex4 st4
  have g_b4 : n0 ≤ b4 := Nat.le_trans (Nat.le_trans Z0 (Keep.refl h0 []).1) (Nat.le_of_eq g4.symm)
  have sz_b4 : h0.size ≤ b4 := Nat.le_trans (Keep.refl h0 []).1 (Nat.le_of_eq g4.symm)
  have V_b4 : Arv Z h4 b4 k4 .byte (2 : Int32) [(.int (0 : Int32)), (.int (0 : Int32))] (.int (0 : Int32)) := (Arv.new A4 (by decide)).pad (pad_rep [] (.int (0 : Int32)) 2)
  have K4 : Keep h0 h4 [] := (Keep.refl h0 []).ext E4
  obtain ⟨cl5, Ar5, -, S5, M5, -, -⟩ := id (V_r0.ext E4)
  have pre6 : ∀ t, Steps p.tables e below (T4.setTop (mkF m 24 #[rv r0, iv (2 : Int32), iv (4 : Int32), iv (2 : Int32), rv b4] [(.int (2 : Int32)), (.int (6 : Int32)), (.int (0 : Int32)), (.ref b4), (.int (2 : Int32)), (.ref r0)])) t → Steps p.tables e below (s₁.setTop (entryFrame m #[(.ref r0), (.int (2 : Int32)), (.int (4 : Int32))] 5)) t := by
    intro t kt
    refine pre3 _ ?_
    show Steps p.tables e below (T2.setTop (mkF m 10 #[rv r0, iv (2 : Int32), iv (4 : Int32), iv (2 : Int32), .unset] [(.int (2 : Int32))])) _
    refine st4 _ ?_
    show Steps p.tables e below (T4.setTop (mkF m 12 #[rv r0, iv (2 : Int32), iv (4 : Int32), iv (2 : Int32), .unset] [(.ref b4)])) _
    refine XS.astore X4.here hx rfl (hb hby d14_12) rfl rfl (l' := #[rv r0, iv (2 : Int32), iv (4 : Int32), iv (2 : Int32), rv b4]) rfl ?_
    refine XS.aloadN X4.here hx rfl (hb hby d14_14) rfl rfl ?_
    refine XS.iloadN X4.here hx rfl (hb hby d14_15) rfl ?_
    refine XS.aload X4.here hx rfl (hb hby d14_16) rfl rfl ?_
    refine XS.iconst X4.here hx rfl (hb hby d14_18) ?_
    refine XS.aloadN X4.here hx rfl (hb hby d14_19) rfl rfl ?_
    refine X4.arraylength hx (by rw [e4]; exact Ar5.1) (State.isArrayOf_alike hZ.alike Ar5.2.1) (g := (mkF m 20 #[rv r0, iv (2 : Int32), iv (4 : Int32), iv (2 : Int32), rv b4] [(.ref r0), (.int (0 : Int32)), (.ref b4), (.int (2 : Int32)), (.ref r0)])) rfl rfl (hb hby d14_20) _ ?_
    rw [len_of S5 M5]
    show Steps p.tables e below (T4.setTop (mkF m 21 #[rv r0, iv (2 : Int32), iv (4 : Int32), iv (2 : Int32), rv b4] [(.int (8 : Int32)), (.int (0 : Int32)), (.ref b4), (.int (2 : Int32)), (.ref r0)])) _
    refine XS.iloadN X4.here hx rfl (hb hby d14_21) rfl ?_
    refine XS.isub X4.here hx rfl (hb hby d14_22) rfl ?_
    show Steps p.tables e below (T4.setTop (mkF m 23 #[rv r0, iv (2 : Int32), iv (4 : Int32), iv (2 : Int32), rv b4] [(.int ((8 : Int32) - (2 : Int32))), (.int (0 : Int32)), (.ref b4), (.int (2 : Int32)), (.ref r0)])) _
    rw [show ((8 : Int32) - (2 : Int32)) = (6 : Int32) from (by decide)]
    show Steps p.tables e below (T4.setTop (mkF m 23 #[rv r0, iv (2 : Int32), iv (4 : Int32), iv (2 : Int32), rv b4] [(.int (6 : Int32)), (.int (0 : Int32)), (.ref b4), (.int (2 : Int32)), (.ref r0)])) _
    refine XS.iloadN X4.here hx rfl (hb hby d14_23) rfl ?_
    exact kt
  obtain ⟨_, _, ⟨T7, L7, k7, n7⟩, -, X7, ⟨Lc7, hQ7, l7, y7, z7⟩, st7⟩ := Jvm.LawKit.callS X4 hx (y := (⟨"java/lang/Math", "min", "(II)I"⟩ : MethodName)) hown (mvT hZ (hw _ (List.mem_of_getElem? (i := 77) rfl))) (mvT hZ (hw _ (List.mem_of_getElem? (i := 78) rfl))) (mvT hZ (hw _ (List.mem_of_getElem? (i := 79) rfl))) (mvT hZ (hw _ (List.mem_of_getElem? (i := 80) rfl))) (by decide) (backOf (W := 4) (rm16i1 l Z a0 hw [] (6 : Int32) (2 : Int32) h4 n0 (Nat.le_trans Z0 K4.1) (by decide)) hZ (hw _ (List.mem_of_getElem? (i := 80) rfl)) (hw _ (List.mem_of_getElem? (i := 79) rfl)) (by decide) (by decide)) (g := (mkF m 24 #[rv r0, iv (2 : Int32), iv (4 : Int32), iv (2 : Int32), rv b4] [(.int (2 : Int32)), (.int (6 : Int32)), (.int (0 : Int32)), (.ref b4), (.int (2 : Int32)), (.ref r0)])) rfl (by rw [hml]; rfl) (argsL := [(.int (6 : Int32)), (.int (2 : Int32))]) (rest := [(.int (0 : Int32)), (.ref b4), (.int (2 : Int32)), (.ref r0)]) (lenOf pd8 rfl) rfl (by show 2 * 0 + _ ≤ _; exact Nat.le_of_eq rfl) (hb hby d14_24) (fun _ _ => ⟨rfl, e4, (by decide : 1 + 0 ≤ _), (by decide : 2 + 0 ≤ _)⟩)
  dsimp only [Pt.U, Pt.locs, Pt.cells, Pt.slots] at X7 l7 y7 z7 st7 hQ7
  subst l7 y7 z7
  obtain ⟨rfl, N7q, hh7⟩ := hQ7
  have N7 := Fr.app N2 N7q
  have pre8 : ∀ t, Steps p.tables e below (T7.setTop (mkF m 27 #[rv r0, iv (2 : Int32), iv (4 : Int32), iv (2 : Int32), rv b4] [(.int (2 : Int32)), (.int (0 : Int32)), (.ref b4), (.int (2 : Int32)), (.ref r0)])) t → Steps p.tables e below (s₁.setTop (entryFrame m #[(.ref r0), (.int (2 : Int32)), (.int (4 : Int32))] 5)) t := by
    intro t kt
    refine pre6 _ ?_
    show Steps p.tables e below (T4.setTop (mkF m 24 #[rv r0, iv (2 : Int32), iv (4 : Int32), iv (2 : Int32), rv b4] [(.int (2 : Int32)), (.int (6 : Int32)), (.int (0 : Int32)), (.ref b4), (.int (2 : Int32)), (.ref r0)])) _
    refine st7 _ ?_
    exact kt
  obtain ⟨T9, h9, L9, X9, e9, N9, Kc9, Vc9, st9⟩ := cpA X7 hx hZ hown (hw _ (List.mem_of_getElem? (i := 81) rfl)) (hw _ (List.mem_of_getElem? (i := 84) rfl)) (hw _ (List.mem_of_getElem? (i := 82) rfl)) (hw _ (List.mem_of_getElem? (i := 83) rfl)) hh7 (V_r0.ext E4) V_b4 (Or.inl ⟨rfl, rfl⟩) (by decide) (by decide) (by decide) (by decide) (by decide) rfl (by decide) N7 g_b4 (g := (mkF m 27 #[rv r0, iv (2 : Int32), iv (4 : Int32), iv (2 : Int32), rv b4] [(.int (2 : Int32)), (.int (0 : Int32)), (.ref b4), (.int (2 : Int32)), (.ref r0)])) rfl (by rw [hml]; rfl) rfl (hb hby d14_27) (by decide) (W := 0) (by show 2 * 0 + _ ≤ _; exact Nat.le_of_eq rfl) (by decide)
  have K9 : Keep h0 h9 [] := K4.trans Kc9 (allS (Or.inr sz_b4) all0)
  have V9 : Arv Z h9 b4 k4 .byte (2 : Int32) [(.int dd2), (.int dd3)] (.int (0 : Int32)) := Vc9
  have pre10 : ∀ t, Steps p.tables e below (T9.setTop (mkF m 32 #[rv r0, iv (2 : Int32), iv (4 : Int32), iv (2 : Int32), rv b4] [(.ref b4)])) t → Steps p.tables e below (s₁.setTop (entryFrame m #[(.ref r0), (.int (2 : Int32)), (.int (4 : Int32))] 5)) t := by
    intro t kt
    refine pre8 _ ?_
    show Steps p.tables e below (T7.setTop (mkF m 27 #[rv r0, iv (2 : Int32), iv (4 : Int32), iv (2 : Int32), rv b4] [(.int (2 : Int32)), (.int (0 : Int32)), (.ref b4), (.int (2 : Int32)), (.ref r0)])) _
    refine st9 _ ?_
    show Steps p.tables e below (T9.setTop (mkF m 30 #[rv r0, iv (2 : Int32), iv (4 : Int32), iv (2 : Int32), rv b4] [])) _
    refine XS.aload X9.here hx rfl (hb hby d14_30) rfl rfl ?_
    exact kt
  obtain ⟨fs, hr, hrun, hended, hW, hsame⟩ := X9.leave (v := some (.ref b4)) (fun h => by rw [Bd.returns] at h; cases h)
  refine ⟨_, _, pre10 _ ?_, hrun, hended, _, _, rfl, ?_, ⟨_, rfl⟩, hW, hsame.mono (by decide) (by decide)⟩
  · show Steps p.tables e below (T9.setTop (mkF m 32 #[rv r0, iv (2 : Int32), iv (4 : Int32), iv (2 : Int32), rv b4] [(.ref b4)])) _
    jvm_step X9.here [X9.here.top, hx, (hb hby d14_32), X9.method', Bd.returns, Value.isRef, FieldType.isReference]
    first | (intro acts; rw [hr _ acts rfl rfl rfl]) | rw [hr _ _ rfl rfl rfl]
    exact Steps.refl _
  · show Q14i2_4 Z r0 kc dd0 dd1 dd2 dd3 dd4 dd5 dd6 dd7 h0 n0 _ T9.heap _
    rw [e9]
    exact ⟨b4, rfl, N9, K9⟩

theorem ef_13i2_4 (m : MethodId) (x0 : Addr) (x1 : Int32) (x2 : Int32) : entryFrame m #[(.ref x0), (.int x1), (.int x2)] 3 = mkF m 0 #[.val (.ref x0), .val (.int x1), .val (.int x2)] [] := by first | (simp [entryFrame, mkF, argsToLocals, Value.category]; done) | rfl
def Q13i2_4 (Z : State) (r0 : Addr) (kc : ClassId) (dd0 : Int32) (dd1 : Int32) (dd2 : Int32) (dd3 : Int32) (dd4 : Int32) (dd5 : Int32) (dd6 : Int32) (dd7 : Int32) (h0 : Heap) (n0 : Nat) (v : Option Value) (h : Heap) (L : List Loc) : Prop := ∃ y, v = some (.ref y) ∧ Fr n0 L ∧ Keep h0 h []
set_option maxRecDepth 65536 in
set_option maxHeartbeats 40000000 in
theorem rm13i2_4 (l : Launch) (Z : State) (a0 : Array Value) (hw : ∀ d ∈ tables_1, d.before a0 Z = true) (ws : List Jvm.Cond) (r0 : Addr) (kc : ClassId) (dd0 : Int32) (dd1 : Int32) (dd2 : Int32) (dd3 : Int32) (dd4 : Int32) (dd5 : Int32) (dd6 : Int32) (dd7 : Int32) (h0 : Heap) (n0 : Nat) (Z0 : n0 ≤ h0.size) (V_r0 : Arv Z h0 r0 kc .byte (8 : Int32) [(.int dd0), (.int dd1), (.int dd2), (.int dd3), (.int dd4), (.int dd5), (.int dd6), (.int dd7)] (.int (0 : Int32))) :
    MetFree l (⟨"java/util/Arrays", "copyOfRange", "([BII)[B"⟩ : MethodName) (head1 (Jvm.Cond.code (⟨"java/util/Arrays", "copyOfRange", "([BII)[B"⟩ : MethodName) jdk_65_method_132_code 3 (some (.array .byte)) :: ws) ({ frames := 2, cells := 1, slots := 2, locals := 34 } : Room)) (fun a U => a = #[(.ref r0), (.int (2 : Int32)), (.int (4 : Int32))] ∧ Z.Warmed39 U.vm ∧ U.heap = h0) (fun _ _ _ _ _ => True) (fun _ U o U' => ∃ v L, o = .returned v ∧ Q13i2_4 Z r0 kc dd0 dd1 dd2 dd3 dd4 dd5 dd6 dd7 h0 n0 v U'.heap L ∧ FrameEnd U o U' L ({ frames := 2, cells := 1, slots := 2, locals := 34 } : Room).cells ({ frames := 2, cells := 1, slots := 2, locals := 34 } : Room).slots) := by
  refine MetFree.of_bodySF (plainFor_of_name pn6) hisR ?_
  intro p e s m args below meth c s₁ Bd hml0 hP hK
  obtain ⟨rfl, hZ, hh⟩ := hP
  have hx := Bd.exec
  have hby := Bd.bytes
  have hml : c.maxLocals = 3 := hml0
  have hown : s.vm.findClass "java/util/Arrays" = some m.cls := findClass_of_methodNamed Bd.named
  have hnm := (name_of_methodNamed Bd.named Bd.method).1
  have X0 : Stand p l e ({ frames := 2, cells := 1, slots := 2, locals := 34 } : Room) s m #[(.ref r0), (.int (2 : Int32)), (.int (4 : Int32))] below meth c s₁ [] 0 0 := Stand.of_body Bd
  have e0 : s₁.heap = h0 := by rw [← hh, Bd.state]; rfl
  have N0 := Fr.nil n0
  have pre0 : ∀ t, Steps p.tables e below (s₁.setTop (mkF m 0 #[rv r0, iv (2 : Int32), iv (4 : Int32)] [])) t → Steps p.tables e below (s₁.setTop (entryFrame m #[(.ref r0), (.int (2 : Int32)), (.int (4 : Int32))] 3)) t := fun t k => castTop (ef_13i2_4 m r0 (2 : Int32) (4 : Int32)) k
  have pre1 : ∀ t, Steps p.tables e below (s₁.setTop (mkF m 13 #[rv r0, iv (2 : Int32), iv (4 : Int32)] [(.int (4 : Int32)), (.int (2 : Int32)), (.ref r0)])) t → Steps p.tables e below (s₁.setTop (entryFrame m #[(.ref r0), (.int (2 : Int32)), (.int (4 : Int32))] 3)) t := by
    intro t kt
    refine pre0 _ ?_
    show Steps p.tables e below (s₁.setTop (mkF m 0 #[rv r0, iv (2 : Int32), iv (4 : Int32)] [])) _
    refine XS.iloadN X0.here hx rfl (hb hby d13_0) rfl ?_
    refine XS.ifYes X0.here hx rfl (pc0 := 1) (pc' := 10) rfl (hb hby d13_1) rfl ((if0 _ _).trans (feq (by decide)).2) (by decide) (by decide) ?_
    refine XS.aloadN X0.here hx rfl (hb hby d13_10) rfl rfl ?_
    refine XS.iloadN X0.here hx rfl (hb hby d13_11) rfl ?_
    refine XS.iloadN X0.here hx rfl (hb hby d13_12) rfl ?_
    exact kt
  obtain ⟨_, _, ⟨T2, L2, k2, n2⟩, -, X2, ⟨Lc2, hQ2, l2, y2, z2⟩, st2⟩ := Jvm.LawKit.callS X0 hx (y := (⟨"java/util/Arrays", "copyOfRangeByte", "([BII)[B"⟩ : MethodName)) hown (mvT hZ (hw _ (List.mem_of_getElem? (i := 71) rfl))) (mvT hZ (hw _ (List.mem_of_getElem? (i := 72) rfl))) (mvT hZ (hw _ (List.mem_of_getElem? (i := 69) rfl))) (mvT hZ (hw _ (List.mem_of_getElem? (i := 73) rfl))) (by decide) (backOf (W := 0) (rm14i2_4 l Z a0 hw [] r0 kc dd0 dd1 dd2 dd3 dd4 dd5 dd6 dd7 h0 n0 (Nat.le_trans Z0 (Keep.refl h0 []).1) V_r0) hZ (hw _ (List.mem_of_getElem? (i := 73) rfl)) (hw _ (List.mem_of_getElem? (i := 69) rfl)) (by decide) (by decide)) (g := (mkF m 13 #[rv r0, iv (2 : Int32), iv (4 : Int32)] [(.int (4 : Int32)), (.int (2 : Int32)), (.ref r0)])) rfl (by rw [hml]; rfl) (argsL := [(.ref r0), (.int (2 : Int32)), (.int (4 : Int32))]) (rest := []) (lenOf pd9 rfl) rfl (by show 2 * 0 + _ ≤ _; exact Nat.le_of_eq rfl) (hb hby d13_13) (fun _ _ => ⟨rfl, e0, (by decide : 0 + 1 ≤ _), (by decide : 0 + 2 ≤ _)⟩)
  dsimp only [Pt.U, Pt.locs, Pt.cells, Pt.slots] at X2 l2 y2 z2 st2 hQ2
  subst l2 y2 z2
  obtain ⟨y2, rfl, N2q, Kc2⟩ := hQ2
  have N2 := Fr.app N0 N2q
  have K2 : Keep h0 T2.heap [] := (Keep.refl h0 []).trans Kc2 all0
  have pre3 : ∀ t, Steps p.tables e below (T2.setTop (mkF m 16 #[rv r0, iv (2 : Int32), iv (4 : Int32)] [(.ref y2)])) t → Steps p.tables e below (s₁.setTop (entryFrame m #[(.ref r0), (.int (2 : Int32)), (.int (4 : Int32))] 3)) t := by
    intro t kt
    refine pre1 _ ?_
    show Steps p.tables e below (s₁.setTop (mkF m 13 #[rv r0, iv (2 : Int32), iv (4 : Int32)] [(.int (4 : Int32)), (.int (2 : Int32)), (.ref r0)])) _
    refine st2 _ ?_
    exact kt
  obtain ⟨fs, hr, hrun, hended, hW, hsame⟩ := X2.leave (v := some (.ref y2)) (fun h => by rw [Bd.returns] at h; cases h)
  refine ⟨_, _, pre3 _ ?_, hrun, hended, _, _, rfl, ?_, ⟨_, rfl⟩, hW, hsame.mono (by decide) (by decide)⟩
  · show Steps p.tables e below (T2.setTop (mkF m 16 #[rv r0, iv (2 : Int32), iv (4 : Int32)] [(.ref y2)])) _
    jvm_step X2.here [X2.here.top, hx, (hb hby d13_16), X2.method', Bd.returns, Value.isRef, FieldType.isReference]
    first | (intro acts; rw [hr _ acts rfl rfl rfl]) | rw [hr _ _ rfl rfl rfl]
    exact Steps.refl _
  · show Q13i2_4 Z r0 kc dd0 dd1 dd2 dd3 dd4 dd5 dd6 dd7 h0 n0 _ T2.heap _
    exact ⟨y2, rfl, N2, K2⟩

theorem ef_14i4_8 (m : MethodId) (x0 : Addr) (x1 : Int32) (x2 : Int32) : entryFrame m #[(.ref x0), (.int x1), (.int x2)] 5 = mkF m 0 #[.val (.ref x0), .val (.int x1), .val (.int x2), .unset, .unset] [] := by first | (simp [entryFrame, mkF, argsToLocals, Value.category]; done) | rfl
def Q14i4_8 (Z : State) (r0 : Addr) (kc : ClassId) (dd0 : Int32) (dd1 : Int32) (dd2 : Int32) (dd3 : Int32) (dd4 : Int32) (dd5 : Int32) (dd6 : Int32) (dd7 : Int32) (h0 : Heap) (n0 : Nat) (v : Option Value) (h : Heap) (L : List Loc) : Prop := ∃ y, v = some (.ref y) ∧ Fr n0 L ∧ Keep h0 h []
set_option maxRecDepth 65536 in
set_option maxHeartbeats 40000000 in
theorem rm14i4_8 (l : Launch) (Z : State) (a0 : Array Value) (hw : ∀ d ∈ tables_1, d.before a0 Z = true) (ws : List Jvm.Cond) (r0 : Addr) (kc : ClassId) (dd0 : Int32) (dd1 : Int32) (dd2 : Int32) (dd3 : Int32) (dd4 : Int32) (dd5 : Int32) (dd6 : Int32) (dd7 : Int32) (h0 : Heap) (n0 : Nat) (Z0 : n0 ≤ h0.size) (V_r0 : Arv Z h0 r0 kc .byte (8 : Int32) [(.int dd0), (.int dd1), (.int dd2), (.int dd3), (.int dd4), (.int dd5), (.int dd6), (.int dd7)] (.int (0 : Int32))) :
    MetFree l (⟨"java/util/Arrays", "copyOfRangeByte", "([BII)[B"⟩ : MethodName) (head1 (Jvm.Cond.code (⟨"java/util/Arrays", "copyOfRangeByte", "([BII)[B"⟩ : MethodName) jdk_65_method_133_code 5 (some (.array .byte)) :: ws) ({ frames := 1, cells := 1, slots := 4, locals := 18 } : Room)) (fun a U => a = #[(.ref r0), (.int (4 : Int32)), (.int (8 : Int32))] ∧ Z.Warmed39 U.vm ∧ U.heap = h0) (fun _ _ _ _ _ => True) (fun _ U o U' => ∃ v L, o = .returned v ∧ Q14i4_8 Z r0 kc dd0 dd1 dd2 dd3 dd4 dd5 dd6 dd7 h0 n0 v U'.heap L ∧ FrameEnd U o U' L ({ frames := 1, cells := 1, slots := 4, locals := 18 } : Room).cells ({ frames := 1, cells := 1, slots := 4, locals := 18 } : Room).slots) := by
  refine MetFree.of_bodySF (plainFor_of_name pn6) hisR ?_
  intro p e s m args below meth c s₁ Bd hml0 hP hK
  obtain ⟨rfl, hZ, hh⟩ := hP
  have hx := Bd.exec
  have hby := Bd.bytes
  have hml : c.maxLocals = 5 := hml0
  have hown : s.vm.findClass "java/util/Arrays" = some m.cls := findClass_of_methodNamed Bd.named
  have hnm := (name_of_methodNamed Bd.named Bd.method).1
  have X0 : Stand p l e ({ frames := 1, cells := 1, slots := 4, locals := 18 } : Room) s m #[(.ref r0), (.int (4 : Int32)), (.int (8 : Int32))] below meth c s₁ [] 0 0 := Stand.of_body Bd
  have e0 : s₁.heap = h0 := by rw [← hh, Bd.state]; rfl
  have N0 := Fr.nil n0
  have pre0 : ∀ t, Steps p.tables e below (s₁.setTop (mkF m 0 #[rv r0, iv (4 : Int32), iv (8 : Int32), .unset, .unset] [])) t → Steps p.tables e below (s₁.setTop (entryFrame m #[(.ref r0), (.int (4 : Int32)), (.int (8 : Int32))] 5)) t := fun t k => castTop (ef_14i4_8 m r0 (4 : Int32) (8 : Int32)) k
  have pre1 : ∀ t, Steps p.tables e below (s₁.setTop (mkF m 2 #[rv r0, iv (4 : Int32), iv (8 : Int32), .unset, .unset] [(.int (8 : Int32)), (.int (4 : Int32))])) t → Steps p.tables e below (s₁.setTop (entryFrame m #[(.ref r0), (.int (4 : Int32)), (.int (8 : Int32))] 5)) t := by
    intro t kt
    refine pre0 _ ?_
    show Steps p.tables e below (s₁.setTop (mkF m 0 #[rv r0, iv (4 : Int32), iv (8 : Int32), .unset, .unset] [])) _
    refine XS.iloadN X0.here hx rfl (hb hby d14_0) rfl ?_
    refine XS.iloadN X0.here hx rfl (hb hby d14_1) rfl ?_
    exact kt
  obtain ⟨_, _, ⟨T2, L2, k2, n2⟩, -, X2, ⟨Lc2, hQ2, l2, y2, z2⟩, st2⟩ := Jvm.LawKit.callS X0 hx (y := (⟨"java/util/Arrays", "checkLength", "(II)V"⟩ : MethodName)) hown (mvT hZ (hw _ (List.mem_of_getElem? (i := 74) rfl))) (mvT hZ (hw _ (List.mem_of_getElem? (i := 75) rfl))) (mvT hZ (hw _ (List.mem_of_getElem? (i := 69) rfl))) (mvT hZ (hw _ (List.mem_of_getElem? (i := 76) rfl))) (by decide) (backOf (W := 0) (rm15 l Z a0 hw [] (4 : Int32) (8 : Int32) h0 n0 (Nat.le_trans Z0 (Keep.refl h0 []).1) (by decide)) hZ (hw _ (List.mem_of_getElem? (i := 76) rfl)) (hw _ (List.mem_of_getElem? (i := 69) rfl)) (by decide) (by decide)) (g := (mkF m 2 #[rv r0, iv (4 : Int32), iv (8 : Int32), .unset, .unset] [(.int (8 : Int32)), (.int (4 : Int32))])) rfl (by rw [hml]; rfl) (argsL := [(.int (4 : Int32)), (.int (8 : Int32))]) (rest := []) (lenOf pd7 rfl) rfl (by show 2 * 0 + _ ≤ _; exact Nat.le_of_eq rfl) (hb hby d14_2) (fun _ _ => ⟨rfl, e0, (by decide : 0 + 0 ≤ _), (by decide : 0 + 0 ≤ _)⟩)
  dsimp only [Pt.U, Pt.locs, Pt.cells, Pt.slots] at X2 l2 y2 z2 st2 hQ2
  subst l2 y2 z2
  obtain ⟨rfl, N2q, hh2⟩ := hQ2
  have N2 := Fr.app N0 N2q
  have pre3 : ∀ t, Steps p.tables e below (T2.setTop (mkF m 10 #[rv r0, iv (4 : Int32), iv (8 : Int32), iv (4 : Int32), .unset] [(.int (4 : Int32))])) t → Steps p.tables e below (s₁.setTop (entryFrame m #[(.ref r0), (.int (4 : Int32)), (.int (8 : Int32))] 5)) t := by
    intro t kt
    refine pre1 _ ?_
    show Steps p.tables e below (s₁.setTop (mkF m 2 #[rv r0, iv (4 : Int32), iv (8 : Int32), .unset, .unset] [(.int (8 : Int32)), (.int (4 : Int32))])) _
    refine st2 _ ?_
    show Steps p.tables e below (T2.setTop (mkF m 5 #[rv r0, iv (4 : Int32), iv (8 : Int32), .unset, .unset] [])) _
    refine XS.iloadN X2.here hx rfl (hb hby d14_5) rfl ?_
    refine XS.iloadN X2.here hx rfl (hb hby d14_6) rfl ?_
    refine XS.isub X2.here hx rfl (hb hby d14_7) rfl ?_
    show Steps p.tables e below (T2.setTop (mkF m 8 #[rv r0, iv (4 : Int32), iv (8 : Int32), .unset, .unset] [(.int ((8 : Int32) - (4 : Int32)))])) _
    rw [show ((8 : Int32) - (4 : Int32)) = (4 : Int32) from (by decide)]
    show Steps p.tables e below (T2.setTop (mkF m 8 #[rv r0, iv (4 : Int32), iv (8 : Int32), .unset, .unset] [(.int (4 : Int32))])) _
    refine XS.istoreN X2.here hx rfl (hb hby d14_8) rfl (l' := #[rv r0, iv (4 : Int32), iv (8 : Int32), iv (4 : Int32), .unset]) rfl ?_
    refine XS.iloadN X2.here hx rfl (hb hby d14_9) rfl ?_
    exact kt
  obtain ⟨T4, h4, k4, X4, e4, E4, A4, Ex4, st4⟩ := newPE X2 hx hZ (hw _ (List.mem_of_getElem? (i := 4) rfl)) hh2 (g := (mkF m 10 #[rv r0, iv (4 : Int32), iv (8 : Int32), iv (4 : Int32), .unset] [(.int (4 : Int32))])) rfl (hb hby d14_10) rfl (by decide) (cap := 4) (by decide) (by decide) (by decide) (by decide) (ad := "[B") rfl
  obtain ⟨b4, g4⟩ : ∃ z, z = h0.size := ⟨_, rfl⟩
  rw [← g4] at A4 Ex4 st4
  have g_b4 : n0 ≤ b4 := Nat.le_trans (Nat.le_trans Z0 (Keep.refl h0 []).1) (Nat.le_of_eq g4.symm)
  have sz_b4 : h0.size ≤ b4 := Nat.le_trans (Keep.refl h0 []).1 (Nat.le_of_eq g4.symm)
  have V_b4 : Arv Z h4 b4 k4 .byte (4 : Int32) [(.int (0 : Int32)), (.int (0 : Int32)), (.int (0 : Int32)), (.int (0 : Int32))] (.int (0 : Int32)) := (Arv.new A4 (by decide)).pad (pad_rep [] (.int (0 : Int32)) 4)
  have K4 : Keep h0 h4 [] := (Keep.refl h0 []).ext E4
  obtain ⟨cl5, Ar5, -, S5, M5, -, -⟩ := id (V_r0.ext E4)
  have pre6 : ∀ t, Steps p.tables e below (T4.setTop (mkF m 24 #[rv r0, iv (4 : Int32), iv (8 : Int32), iv (4 : Int32), rv b4] [(.int (4 : Int32)), (.int (4 : Int32)), (.int (0 : Int32)), (.ref b4), (.int (4 : Int32)), (.ref r0)])) t → Steps p.tables e below (s₁.setTop (entryFrame m #[(.ref r0), (.int (4 : Int32)), (.int (8 : Int32))] 5)) t := by
    intro t kt
    refine pre3 _ ?_
    show Steps p.tables e below (T2.setTop (mkF m 10 #[rv r0, iv (4 : Int32), iv (8 : Int32), iv (4 : Int32), .unset] [(.int (4 : Int32))])) _
    refine st4 _ ?_
    show Steps p.tables e below (T4.setTop (mkF m 12 #[rv r0, iv (4 : Int32), iv (8 : Int32), iv (4 : Int32), .unset] [(.ref b4)])) _
    refine XS.astore X4.here hx rfl (hb hby d14_12) rfl rfl (l' := #[rv r0, iv (4 : Int32), iv (8 : Int32), iv (4 : Int32), rv b4]) rfl ?_
    refine XS.aloadN X4.here hx rfl (hb hby d14_14) rfl rfl ?_
    refine XS.iloadN X4.here hx rfl (hb hby d14_15) rfl ?_
    refine XS.aload X4.here hx rfl (hb hby d14_16) rfl rfl ?_
    refine XS.iconst X4.here hx rfl (hb hby d14_18) ?_
    refine XS.aloadN X4.here hx rfl (hb hby d14_19) rfl rfl ?_
    refine X4.arraylength hx (by rw [e4]; exact Ar5.1) (State.isArrayOf_alike hZ.alike Ar5.2.1) (g := (mkF m 20 #[rv r0, iv (4 : Int32), iv (8 : Int32), iv (4 : Int32), rv b4] [(.ref r0), (.int (0 : Int32)), (.ref b4), (.int (4 : Int32)), (.ref r0)])) rfl rfl (hb hby d14_20) _ ?_
    rw [len_of S5 M5]
    show Steps p.tables e below (T4.setTop (mkF m 21 #[rv r0, iv (4 : Int32), iv (8 : Int32), iv (4 : Int32), rv b4] [(.int (8 : Int32)), (.int (0 : Int32)), (.ref b4), (.int (4 : Int32)), (.ref r0)])) _
    refine XS.iloadN X4.here hx rfl (hb hby d14_21) rfl ?_
    refine XS.isub X4.here hx rfl (hb hby d14_22) rfl ?_
    show Steps p.tables e below (T4.setTop (mkF m 23 #[rv r0, iv (4 : Int32), iv (8 : Int32), iv (4 : Int32), rv b4] [(.int ((8 : Int32) - (4 : Int32))), (.int (0 : Int32)), (.ref b4), (.int (4 : Int32)), (.ref r0)])) _
    rw [show ((8 : Int32) - (4 : Int32)) = (4 : Int32) from (by decide)]
    show Steps p.tables e below (T4.setTop (mkF m 23 #[rv r0, iv (4 : Int32), iv (8 : Int32), iv (4 : Int32), rv b4] [(.int (4 : Int32)), (.int (0 : Int32)), (.ref b4), (.int (4 : Int32)), (.ref r0)])) _
    refine XS.iloadN X4.here hx rfl (hb hby d14_23) rfl ?_
    exact kt
  obtain ⟨_, _, ⟨T7, L7, k7, n7⟩, -, X7, ⟨Lc7, hQ7, l7, y7, z7⟩, st7⟩ := Jvm.LawKit.callS X4 hx (y := (⟨"java/lang/Math", "min", "(II)I"⟩ : MethodName)) hown (mvT hZ (hw _ (List.mem_of_getElem? (i := 77) rfl))) (mvT hZ (hw _ (List.mem_of_getElem? (i := 78) rfl))) (mvT hZ (hw _ (List.mem_of_getElem? (i := 79) rfl))) (mvT hZ (hw _ (List.mem_of_getElem? (i := 80) rfl))) (by decide) (backOf (W := 4) (rm16i0 l Z a0 hw [] (4 : Int32) (4 : Int32) h4 n0 (Nat.le_trans Z0 K4.1) (by decide)) hZ (hw _ (List.mem_of_getElem? (i := 80) rfl)) (hw _ (List.mem_of_getElem? (i := 79) rfl)) (by decide) (by decide)) (g := (mkF m 24 #[rv r0, iv (4 : Int32), iv (8 : Int32), iv (4 : Int32), rv b4] [(.int (4 : Int32)), (.int (4 : Int32)), (.int (0 : Int32)), (.ref b4), (.int (4 : Int32)), (.ref r0)])) rfl (by rw [hml]; rfl) (argsL := [(.int (4 : Int32)), (.int (4 : Int32))]) (rest := [(.int (0 : Int32)), (.ref b4), (.int (4 : Int32)), (.ref r0)]) (lenOf pd8 rfl) rfl (by show 2 * 0 + _ ≤ _; exact Nat.le_of_eq rfl) (hb hby d14_24) (fun _ _ => ⟨rfl, e4, (by decide : 1 + 0 ≤ _), (by decide : 4 + 0 ≤ _)⟩)
  dsimp only [Pt.U, Pt.locs, Pt.cells, Pt.slots] at X7 l7 y7 z7 st7 hQ7
  subst l7 y7 z7
  obtain ⟨rfl, N7q, hh7⟩ := hQ7
  have N7 := Fr.app N2 N7q
  have pre8 : ∀ t, Steps p.tables e below (T7.setTop (mkF m 27 #[rv r0, iv (4 : Int32), iv (8 : Int32), iv (4 : Int32), rv b4] [(.int (4 : Int32)), (.int (0 : Int32)), (.ref b4), (.int (4 : Int32)), (.ref r0)])) t → Steps p.tables e below (s₁.setTop (entryFrame m #[(.ref r0), (.int (4 : Int32)), (.int (8 : Int32))] 5)) t := by
    intro t kt
    refine pre6 _ ?_
    show Steps p.tables e below (T4.setTop (mkF m 24 #[rv r0, iv (4 : Int32), iv (8 : Int32), iv (4 : Int32), rv b4] [(.int (4 : Int32)), (.int (4 : Int32)), (.int (0 : Int32)), (.ref b4), (.int (4 : Int32)), (.ref r0)])) _
    refine st7 _ ?_
    exact kt
  obtain ⟨T9, h9, L9, X9, e9, N9, Kc9, Vc9, st9⟩ := cpA X7 hx hZ hown (hw _ (List.mem_of_getElem? (i := 81) rfl)) (hw _ (List.mem_of_getElem? (i := 84) rfl)) (hw _ (List.mem_of_getElem? (i := 82) rfl)) (hw _ (List.mem_of_getElem? (i := 83) rfl)) hh7 (V_r0.ext E4) V_b4 (Or.inl ⟨rfl, rfl⟩) (by decide) (by decide) (by decide) (by decide) (by decide) rfl (by decide) N7 g_b4 (g := (mkF m 27 #[rv r0, iv (4 : Int32), iv (8 : Int32), iv (4 : Int32), rv b4] [(.int (4 : Int32)), (.int (0 : Int32)), (.ref b4), (.int (4 : Int32)), (.ref r0)])) rfl (by rw [hml]; rfl) rfl (hb hby d14_27) (by decide) (W := 0) (by show 2 * 0 + _ ≤ _; exact Nat.le_of_eq rfl) (by decide)
  have K9 : Keep h0 h9 [] := K4.trans Kc9 (allS (Or.inr sz_b4) all0)
  have V9 : Arv Z h9 b4 k4 .byte (4 : Int32) [(.int dd4), (.int dd5), (.int dd6), (.int dd7)] (.int (0 : Int32)) := Vc9
  have pre10 : ∀ t, Steps p.tables e below (T9.setTop (mkF m 32 #[rv r0, iv (4 : Int32), iv (8 : Int32), iv (4 : Int32), rv b4] [(.ref b4)])) t → Steps p.tables e below (s₁.setTop (entryFrame m #[(.ref r0), (.int (4 : Int32)), (.int (8 : Int32))] 5)) t := by
    intro t kt
    refine pre8 _ ?_
    show Steps p.tables e below (T7.setTop (mkF m 27 #[rv r0, iv (4 : Int32), iv (8 : Int32), iv (4 : Int32), rv b4] [(.int (4 : Int32)), (.int (0 : Int32)), (.ref b4), (.int (4 : Int32)), (.ref r0)])) _
    refine st9 _ ?_
    show Steps p.tables e below (T9.setTop (mkF m 30 #[rv r0, iv (4 : Int32), iv (8 : Int32), iv (4 : Int32), rv b4] [])) _
    refine XS.aload X9.here hx rfl (hb hby d14_30) rfl rfl ?_
    exact kt
  obtain ⟨fs, hr, hrun, hended, hW, hsame⟩ := X9.leave (v := some (.ref b4)) (fun h => by rw [Bd.returns] at h; cases h)
  refine ⟨_, _, pre10 _ ?_, hrun, hended, _, _, rfl, ?_, ⟨_, rfl⟩, hW, hsame.mono (by decide) (by decide)⟩
  · show Steps p.tables e below (T9.setTop (mkF m 32 #[rv r0, iv (4 : Int32), iv (8 : Int32), iv (4 : Int32), rv b4] [(.ref b4)])) _
    jvm_step X9.here [X9.here.top, hx, (hb hby d14_32), X9.method', Bd.returns, Value.isRef, FieldType.isReference]
    first | (intro acts; rw [hr _ acts rfl rfl rfl]) | rw [hr _ _ rfl rfl rfl]
    exact Steps.refl _
  · show Q14i4_8 Z r0 kc dd0 dd1 dd2 dd3 dd4 dd5 dd6 dd7 h0 n0 _ T9.heap _
    rw [e9]
    exact ⟨b4, rfl, N9, K9⟩

theorem ef_13i4_8 (m : MethodId) (x0 : Addr) (x1 : Int32) (x2 : Int32) : entryFrame m #[(.ref x0), (.int x1), (.int x2)] 3 = mkF m 0 #[.val (.ref x0), .val (.int x1), .val (.int x2)] [] := by first | (simp [entryFrame, mkF, argsToLocals, Value.category]; done) | rfl
def Q13i4_8 (Z : State) (r0 : Addr) (kc : ClassId) (dd0 : Int32) (dd1 : Int32) (dd2 : Int32) (dd3 : Int32) (dd4 : Int32) (dd5 : Int32) (dd6 : Int32) (dd7 : Int32) (h0 : Heap) (n0 : Nat) (v : Option Value) (h : Heap) (L : List Loc) : Prop := ∃ y, v = some (.ref y) ∧ Fr n0 L ∧ Keep h0 h []
set_option maxRecDepth 65536 in
set_option maxHeartbeats 40000000 in
theorem rm13i4_8 (l : Launch) (Z : State) (a0 : Array Value) (hw : ∀ d ∈ tables_1, d.before a0 Z = true) (ws : List Jvm.Cond) (r0 : Addr) (kc : ClassId) (dd0 : Int32) (dd1 : Int32) (dd2 : Int32) (dd3 : Int32) (dd4 : Int32) (dd5 : Int32) (dd6 : Int32) (dd7 : Int32) (h0 : Heap) (n0 : Nat) (Z0 : n0 ≤ h0.size) (V_r0 : Arv Z h0 r0 kc .byte (8 : Int32) [(.int dd0), (.int dd1), (.int dd2), (.int dd3), (.int dd4), (.int dd5), (.int dd6), (.int dd7)] (.int (0 : Int32))) :
    MetFree l (⟨"java/util/Arrays", "copyOfRange", "([BII)[B"⟩ : MethodName) (head1 (Jvm.Cond.code (⟨"java/util/Arrays", "copyOfRange", "([BII)[B"⟩ : MethodName) jdk_65_method_132_code 3 (some (.array .byte)) :: ws) ({ frames := 2, cells := 1, slots := 4, locals := 34 } : Room)) (fun a U => a = #[(.ref r0), (.int (4 : Int32)), (.int (8 : Int32))] ∧ Z.Warmed39 U.vm ∧ U.heap = h0) (fun _ _ _ _ _ => True) (fun _ U o U' => ∃ v L, o = .returned v ∧ Q13i4_8 Z r0 kc dd0 dd1 dd2 dd3 dd4 dd5 dd6 dd7 h0 n0 v U'.heap L ∧ FrameEnd U o U' L ({ frames := 2, cells := 1, slots := 4, locals := 34 } : Room).cells ({ frames := 2, cells := 1, slots := 4, locals := 34 } : Room).slots) := by
  refine MetFree.of_bodySF (plainFor_of_name pn6) hisR ?_
  intro p e s m args below meth c s₁ Bd hml0 hP hK
  obtain ⟨rfl, hZ, hh⟩ := hP
  have hx := Bd.exec
  have hby := Bd.bytes
  have hml : c.maxLocals = 3 := hml0
  have hown : s.vm.findClass "java/util/Arrays" = some m.cls := findClass_of_methodNamed Bd.named
  have hnm := (name_of_methodNamed Bd.named Bd.method).1
  have X0 : Stand p l e ({ frames := 2, cells := 1, slots := 4, locals := 34 } : Room) s m #[(.ref r0), (.int (4 : Int32)), (.int (8 : Int32))] below meth c s₁ [] 0 0 := Stand.of_body Bd
  have e0 : s₁.heap = h0 := by rw [← hh, Bd.state]; rfl
  have N0 := Fr.nil n0
  have pre0 : ∀ t, Steps p.tables e below (s₁.setTop (mkF m 0 #[rv r0, iv (4 : Int32), iv (8 : Int32)] [])) t → Steps p.tables e below (s₁.setTop (entryFrame m #[(.ref r0), (.int (4 : Int32)), (.int (8 : Int32))] 3)) t := fun t k => castTop (ef_13i4_8 m r0 (4 : Int32) (8 : Int32)) k
  have pre1 : ∀ t, Steps p.tables e below (s₁.setTop (mkF m 13 #[rv r0, iv (4 : Int32), iv (8 : Int32)] [(.int (8 : Int32)), (.int (4 : Int32)), (.ref r0)])) t → Steps p.tables e below (s₁.setTop (entryFrame m #[(.ref r0), (.int (4 : Int32)), (.int (8 : Int32))] 3)) t := by
    intro t kt
    refine pre0 _ ?_
    show Steps p.tables e below (s₁.setTop (mkF m 0 #[rv r0, iv (4 : Int32), iv (8 : Int32)] [])) _
    refine XS.iloadN X0.here hx rfl (hb hby d13_0) rfl ?_
    refine XS.ifYes X0.here hx rfl (pc0 := 1) (pc' := 10) rfl (hb hby d13_1) rfl ((if0 _ _).trans (feq (by decide)).2) (by decide) (by decide) ?_
    refine XS.aloadN X0.here hx rfl (hb hby d13_10) rfl rfl ?_
    refine XS.iloadN X0.here hx rfl (hb hby d13_11) rfl ?_
    refine XS.iloadN X0.here hx rfl (hb hby d13_12) rfl ?_
    exact kt
  obtain ⟨_, _, ⟨T2, L2, k2, n2⟩, -, X2, ⟨Lc2, hQ2, l2, y2, z2⟩, st2⟩ := Jvm.LawKit.callS X0 hx (y := (⟨"java/util/Arrays", "copyOfRangeByte", "([BII)[B"⟩ : MethodName)) hown (mvT hZ (hw _ (List.mem_of_getElem? (i := 71) rfl))) (mvT hZ (hw _ (List.mem_of_getElem? (i := 72) rfl))) (mvT hZ (hw _ (List.mem_of_getElem? (i := 69) rfl))) (mvT hZ (hw _ (List.mem_of_getElem? (i := 73) rfl))) (by decide) (backOf (W := 0) (rm14i4_8 l Z a0 hw [] r0 kc dd0 dd1 dd2 dd3 dd4 dd5 dd6 dd7 h0 n0 (Nat.le_trans Z0 (Keep.refl h0 []).1) V_r0) hZ (hw _ (List.mem_of_getElem? (i := 73) rfl)) (hw _ (List.mem_of_getElem? (i := 69) rfl)) (by decide) (by decide)) (g := (mkF m 13 #[rv r0, iv (4 : Int32), iv (8 : Int32)] [(.int (8 : Int32)), (.int (4 : Int32)), (.ref r0)])) rfl (by rw [hml]; rfl) (argsL := [(.ref r0), (.int (4 : Int32)), (.int (8 : Int32))]) (rest := []) (lenOf pd9 rfl) rfl (by show 2 * 0 + _ ≤ _; exact Nat.le_of_eq rfl) (hb hby d13_13) (fun _ _ => ⟨rfl, e0, (by decide : 0 + 1 ≤ _), (by decide : 0 + 4 ≤ _)⟩)
  dsimp only [Pt.U, Pt.locs, Pt.cells, Pt.slots] at X2 l2 y2 z2 st2 hQ2
  subst l2 y2 z2
  obtain ⟨y2, rfl, N2q, Kc2⟩ := hQ2
  have N2 := Fr.app N0 N2q
  have K2 : Keep h0 T2.heap [] := (Keep.refl h0 []).trans Kc2 all0
  have pre3 : ∀ t, Steps p.tables e below (T2.setTop (mkF m 16 #[rv r0, iv (4 : Int32), iv (8 : Int32)] [(.ref y2)])) t → Steps p.tables e below (s₁.setTop (entryFrame m #[(.ref r0), (.int (4 : Int32)), (.int (8 : Int32))] 3)) t := by
    intro t kt
    refine pre1 _ ?_
    show Steps p.tables e below (s₁.setTop (mkF m 13 #[rv r0, iv (4 : Int32), iv (8 : Int32)] [(.int (8 : Int32)), (.int (4 : Int32)), (.ref r0)])) _
    refine st2 _ ?_
    exact kt
  obtain ⟨fs, hr, hrun, hended, hW, hsame⟩ := X2.leave (v := some (.ref y2)) (fun h => by rw [Bd.returns] at h; cases h)
  refine ⟨_, _, pre3 _ ?_, hrun, hended, _, _, rfl, ?_, ⟨_, rfl⟩, hW, hsame.mono (by decide) (by decide)⟩
  · show Steps p.tables e below (T2.setTop (mkF m 16 #[rv r0, iv (4 : Int32), iv (8 : Int32)] [(.ref y2)])) _
    jvm_step X2.here [X2.here.top, hx, (hb hby d13_16), X2.method', Bd.returns, Value.isRef, FieldType.isReference]
    first | (intro acts; rw [hr _ acts rfl rfl rfl]) | rw [hr _ _ rfl rfl rfl]
    exact Steps.refl _
  · show Q13i4_8 Z r0 kc dd0 dd1 dd2 dd3 dd4 dd5 dd6 dd7 h0 n0 _ T2.heap _
    exact ⟨y2, rfl, N2, K2⟩

theorem ef_14i2_5 (m : MethodId) (x0 : Addr) (x1 : Int32) (x2 : Int32) : entryFrame m #[(.ref x0), (.int x1), (.int x2)] 5 = mkF m 0 #[.val (.ref x0), .val (.int x1), .val (.int x2), .unset, .unset] [] := by first | (simp [entryFrame, mkF, argsToLocals, Value.category]; done) | rfl
def Q14i2_5 (Z : State) (r0 : Addr) (kc : ClassId) (dd0 : Int32) (dd1 : Int32) (dd2 : Int32) (dd3 : Int32) (dd4 : Int32) (dd5 : Int32) (dd6 : Int32) (dd7 : Int32) (h0 : Heap) (n0 : Nat) (v : Option Value) (h : Heap) (L : List Loc) : Prop := ∃ y, v = some (.ref y) ∧ Fr n0 L ∧ Keep h0 h []
set_option maxRecDepth 65536 in
set_option maxHeartbeats 40000000 in
theorem rm14i2_5 (l : Launch) (Z : State) (a0 : Array Value) (hw : ∀ d ∈ tables_1, d.before a0 Z = true) (ws : List Jvm.Cond) (r0 : Addr) (kc : ClassId) (dd0 : Int32) (dd1 : Int32) (dd2 : Int32) (dd3 : Int32) (dd4 : Int32) (dd5 : Int32) (dd6 : Int32) (dd7 : Int32) (h0 : Heap) (n0 : Nat) (Z0 : n0 ≤ h0.size) (V_r0 : Arv Z h0 r0 kc .byte (8 : Int32) [(.int dd0), (.int dd1), (.int dd2), (.int dd3), (.int dd4), (.int dd5), (.int dd6), (.int dd7)] (.int (0 : Int32))) :
    MetFree l (⟨"java/util/Arrays", "copyOfRangeByte", "([BII)[B"⟩ : MethodName) (head1 (Jvm.Cond.code (⟨"java/util/Arrays", "copyOfRangeByte", "([BII)[B"⟩ : MethodName) jdk_65_method_133_code 5 (some (.array .byte)) :: ws) ({ frames := 1, cells := 1, slots := 3, locals := 18 } : Room)) (fun a U => a = #[(.ref r0), (.int (2 : Int32)), (.int (5 : Int32))] ∧ Z.Warmed39 U.vm ∧ U.heap = h0) (fun _ _ _ _ _ => True) (fun _ U o U' => ∃ v L, o = .returned v ∧ Q14i2_5 Z r0 kc dd0 dd1 dd2 dd3 dd4 dd5 dd6 dd7 h0 n0 v U'.heap L ∧ FrameEnd U o U' L ({ frames := 1, cells := 1, slots := 3, locals := 18 } : Room).cells ({ frames := 1, cells := 1, slots := 3, locals := 18 } : Room).slots) := by
  refine MetFree.of_bodySF (plainFor_of_name pn6) hisR ?_
  intro p e s m args below meth c s₁ Bd hml0 hP hK
  obtain ⟨rfl, hZ, hh⟩ := hP
  have hx := Bd.exec
  have hby := Bd.bytes
  have hml : c.maxLocals = 5 := hml0
  have hown : s.vm.findClass "java/util/Arrays" = some m.cls := findClass_of_methodNamed Bd.named
  have hnm := (name_of_methodNamed Bd.named Bd.method).1
  have X0 : Stand p l e ({ frames := 1, cells := 1, slots := 3, locals := 18 } : Room) s m #[(.ref r0), (.int (2 : Int32)), (.int (5 : Int32))] below meth c s₁ [] 0 0 := Stand.of_body Bd
  have e0 : s₁.heap = h0 := by rw [← hh, Bd.state]; rfl
  have N0 := Fr.nil n0
  have pre0 : ∀ t, Steps p.tables e below (s₁.setTop (mkF m 0 #[rv r0, iv (2 : Int32), iv (5 : Int32), .unset, .unset] [])) t → Steps p.tables e below (s₁.setTop (entryFrame m #[(.ref r0), (.int (2 : Int32)), (.int (5 : Int32))] 5)) t := fun t k => castTop (ef_14i2_5 m r0 (2 : Int32) (5 : Int32)) k
  have pre1 : ∀ t, Steps p.tables e below (s₁.setTop (mkF m 2 #[rv r0, iv (2 : Int32), iv (5 : Int32), .unset, .unset] [(.int (5 : Int32)), (.int (2 : Int32))])) t → Steps p.tables e below (s₁.setTop (entryFrame m #[(.ref r0), (.int (2 : Int32)), (.int (5 : Int32))] 5)) t := by
    intro t kt
    refine pre0 _ ?_
    show Steps p.tables e below (s₁.setTop (mkF m 0 #[rv r0, iv (2 : Int32), iv (5 : Int32), .unset, .unset] [])) _
    refine XS.iloadN X0.here hx rfl (hb hby d14_0) rfl ?_
    refine XS.iloadN X0.here hx rfl (hb hby d14_1) rfl ?_
    exact kt
  obtain ⟨_, _, ⟨T2, L2, k2, n2⟩, -, X2, ⟨Lc2, hQ2, l2, y2, z2⟩, st2⟩ := Jvm.LawKit.callS X0 hx (y := (⟨"java/util/Arrays", "checkLength", "(II)V"⟩ : MethodName)) hown (mvT hZ (hw _ (List.mem_of_getElem? (i := 74) rfl))) (mvT hZ (hw _ (List.mem_of_getElem? (i := 75) rfl))) (mvT hZ (hw _ (List.mem_of_getElem? (i := 69) rfl))) (mvT hZ (hw _ (List.mem_of_getElem? (i := 76) rfl))) (by decide) (backOf (W := 0) (rm15 l Z a0 hw [] (2 : Int32) (5 : Int32) h0 n0 (Nat.le_trans Z0 (Keep.refl h0 []).1) (by decide)) hZ (hw _ (List.mem_of_getElem? (i := 76) rfl)) (hw _ (List.mem_of_getElem? (i := 69) rfl)) (by decide) (by decide)) (g := (mkF m 2 #[rv r0, iv (2 : Int32), iv (5 : Int32), .unset, .unset] [(.int (5 : Int32)), (.int (2 : Int32))])) rfl (by rw [hml]; rfl) (argsL := [(.int (2 : Int32)), (.int (5 : Int32))]) (rest := []) (lenOf pd7 rfl) rfl (by show 2 * 0 + _ ≤ _; exact Nat.le_of_eq rfl) (hb hby d14_2) (fun _ _ => ⟨rfl, e0, (by decide : 0 + 0 ≤ _), (by decide : 0 + 0 ≤ _)⟩)
  dsimp only [Pt.U, Pt.locs, Pt.cells, Pt.slots] at X2 l2 y2 z2 st2 hQ2
  subst l2 y2 z2
  obtain ⟨rfl, N2q, hh2⟩ := hQ2
  have N2 := Fr.app N0 N2q
  have pre3 : ∀ t, Steps p.tables e below (T2.setTop (mkF m 10 #[rv r0, iv (2 : Int32), iv (5 : Int32), iv (3 : Int32), .unset] [(.int (3 : Int32))])) t → Steps p.tables e below (s₁.setTop (entryFrame m #[(.ref r0), (.int (2 : Int32)), (.int (5 : Int32))] 5)) t := by
    intro t kt
    refine pre1 _ ?_
    show Steps p.tables e below (s₁.setTop (mkF m 2 #[rv r0, iv (2 : Int32), iv (5 : Int32), .unset, .unset] [(.int (5 : Int32)), (.int (2 : Int32))])) _
    refine st2 _ ?_
    show Steps p.tables e below (T2.setTop (mkF m 5 #[rv r0, iv (2 : Int32), iv (5 : Int32), .unset, .unset] [])) _
    refine XS.iloadN X2.here hx rfl (hb hby d14_5) rfl ?_
    refine XS.iloadN X2.here hx rfl (hb hby d14_6) rfl ?_
    refine XS.isub X2.here hx rfl (hb hby d14_7) rfl ?_
    show Steps p.tables e below (T2.setTop (mkF m 8 #[rv r0, iv (2 : Int32), iv (5 : Int32), .unset, .unset] [(.int ((5 : Int32) - (2 : Int32)))])) _
    rw [show ((5 : Int32) - (2 : Int32)) = (3 : Int32) from (by decide)]
    show Steps p.tables e below (T2.setTop (mkF m 8 #[rv r0, iv (2 : Int32), iv (5 : Int32), .unset, .unset] [(.int (3 : Int32))])) _
    refine XS.istoreN X2.here hx rfl (hb hby d14_8) rfl (l' := #[rv r0, iv (2 : Int32), iv (5 : Int32), iv (3 : Int32), .unset]) rfl ?_
    refine XS.iloadN X2.here hx rfl (hb hby d14_9) rfl ?_
    exact kt
  obtain ⟨T4, h4, k4, X4, e4, E4, A4, Ex4, st4⟩ := newPE X2 hx hZ (hw _ (List.mem_of_getElem? (i := 4) rfl)) hh2 (g := (mkF m 10 #[rv r0, iv (2 : Int32), iv (5 : Int32), iv (3 : Int32), .unset] [(.int (3 : Int32))])) rfl (hb hby d14_10) rfl (by decide) (cap := 3) (by decide) (by decide) (by decide) (by decide) (ad := "[B") rfl
  obtain ⟨b4, g4⟩ : ∃ z, z = h0.size := ⟨_, rfl⟩
  rw [← g4] at A4 Ex4 st4
  have g_b4 : n0 ≤ b4 := Nat.le_trans (Nat.le_trans Z0 (Keep.refl h0 []).1) (Nat.le_of_eq g4.symm)
  have sz_b4 : h0.size ≤ b4 := Nat.le_trans (Keep.refl h0 []).1 (Nat.le_of_eq g4.symm)
  have V_b4 : Arv Z h4 b4 k4 .byte (3 : Int32) [(.int (0 : Int32)), (.int (0 : Int32)), (.int (0 : Int32))] (.int (0 : Int32)) := (Arv.new A4 (by decide)).pad (pad_rep [] (.int (0 : Int32)) 3)
  have K4 : Keep h0 h4 [] := (Keep.refl h0 []).ext E4
  obtain ⟨cl5, Ar5, -, S5, M5, -, -⟩ := id (V_r0.ext E4)
  have pre6 : ∀ t, Steps p.tables e below (T4.setTop (mkF m 24 #[rv r0, iv (2 : Int32), iv (5 : Int32), iv (3 : Int32), rv b4] [(.int (3 : Int32)), (.int (6 : Int32)), (.int (0 : Int32)), (.ref b4), (.int (2 : Int32)), (.ref r0)])) t → Steps p.tables e below (s₁.setTop (entryFrame m #[(.ref r0), (.int (2 : Int32)), (.int (5 : Int32))] 5)) t := by
    intro t kt
    refine pre3 _ ?_
    show Steps p.tables e below (T2.setTop (mkF m 10 #[rv r0, iv (2 : Int32), iv (5 : Int32), iv (3 : Int32), .unset] [(.int (3 : Int32))])) _
    refine st4 _ ?_
    show Steps p.tables e below (T4.setTop (mkF m 12 #[rv r0, iv (2 : Int32), iv (5 : Int32), iv (3 : Int32), .unset] [(.ref b4)])) _
    refine XS.astore X4.here hx rfl (hb hby d14_12) rfl rfl (l' := #[rv r0, iv (2 : Int32), iv (5 : Int32), iv (3 : Int32), rv b4]) rfl ?_
    refine XS.aloadN X4.here hx rfl (hb hby d14_14) rfl rfl ?_
    refine XS.iloadN X4.here hx rfl (hb hby d14_15) rfl ?_
    refine XS.aload X4.here hx rfl (hb hby d14_16) rfl rfl ?_
    refine XS.iconst X4.here hx rfl (hb hby d14_18) ?_
    refine XS.aloadN X4.here hx rfl (hb hby d14_19) rfl rfl ?_
    refine X4.arraylength hx (by rw [e4]; exact Ar5.1) (State.isArrayOf_alike hZ.alike Ar5.2.1) (g := (mkF m 20 #[rv r0, iv (2 : Int32), iv (5 : Int32), iv (3 : Int32), rv b4] [(.ref r0), (.int (0 : Int32)), (.ref b4), (.int (2 : Int32)), (.ref r0)])) rfl rfl (hb hby d14_20) _ ?_
    rw [len_of S5 M5]
    show Steps p.tables e below (T4.setTop (mkF m 21 #[rv r0, iv (2 : Int32), iv (5 : Int32), iv (3 : Int32), rv b4] [(.int (8 : Int32)), (.int (0 : Int32)), (.ref b4), (.int (2 : Int32)), (.ref r0)])) _
    refine XS.iloadN X4.here hx rfl (hb hby d14_21) rfl ?_
    refine XS.isub X4.here hx rfl (hb hby d14_22) rfl ?_
    show Steps p.tables e below (T4.setTop (mkF m 23 #[rv r0, iv (2 : Int32), iv (5 : Int32), iv (3 : Int32), rv b4] [(.int ((8 : Int32) - (2 : Int32))), (.int (0 : Int32)), (.ref b4), (.int (2 : Int32)), (.ref r0)])) _
    rw [show ((8 : Int32) - (2 : Int32)) = (6 : Int32) from (by decide)]
    show Steps p.tables e below (T4.setTop (mkF m 23 #[rv r0, iv (2 : Int32), iv (5 : Int32), iv (3 : Int32), rv b4] [(.int (6 : Int32)), (.int (0 : Int32)), (.ref b4), (.int (2 : Int32)), (.ref r0)])) _
    refine XS.iloadN X4.here hx rfl (hb hby d14_23) rfl ?_
    exact kt
  obtain ⟨_, _, ⟨T7, L7, k7, n7⟩, -, X7, ⟨Lc7, hQ7, l7, y7, z7⟩, st7⟩ := Jvm.LawKit.callS X4 hx (y := (⟨"java/lang/Math", "min", "(II)I"⟩ : MethodName)) hown (mvT hZ (hw _ (List.mem_of_getElem? (i := 77) rfl))) (mvT hZ (hw _ (List.mem_of_getElem? (i := 78) rfl))) (mvT hZ (hw _ (List.mem_of_getElem? (i := 79) rfl))) (mvT hZ (hw _ (List.mem_of_getElem? (i := 80) rfl))) (by decide) (backOf (W := 4) (rm16i1 l Z a0 hw [] (6 : Int32) (3 : Int32) h4 n0 (Nat.le_trans Z0 K4.1) (by decide)) hZ (hw _ (List.mem_of_getElem? (i := 80) rfl)) (hw _ (List.mem_of_getElem? (i := 79) rfl)) (by decide) (by decide)) (g := (mkF m 24 #[rv r0, iv (2 : Int32), iv (5 : Int32), iv (3 : Int32), rv b4] [(.int (3 : Int32)), (.int (6 : Int32)), (.int (0 : Int32)), (.ref b4), (.int (2 : Int32)), (.ref r0)])) rfl (by rw [hml]; rfl) (argsL := [(.int (6 : Int32)), (.int (3 : Int32))]) (rest := [(.int (0 : Int32)), (.ref b4), (.int (2 : Int32)), (.ref r0)]) (lenOf pd8 rfl) rfl (by show 2 * 0 + _ ≤ _; exact Nat.le_of_eq rfl) (hb hby d14_24) (fun _ _ => ⟨rfl, e4, (by decide : 1 + 0 ≤ _), (by decide : 3 + 0 ≤ _)⟩)
  dsimp only [Pt.U, Pt.locs, Pt.cells, Pt.slots] at X7 l7 y7 z7 st7 hQ7
  subst l7 y7 z7
  obtain ⟨rfl, N7q, hh7⟩ := hQ7
  have N7 := Fr.app N2 N7q
  have pre8 : ∀ t, Steps p.tables e below (T7.setTop (mkF m 27 #[rv r0, iv (2 : Int32), iv (5 : Int32), iv (3 : Int32), rv b4] [(.int (3 : Int32)), (.int (0 : Int32)), (.ref b4), (.int (2 : Int32)), (.ref r0)])) t → Steps p.tables e below (s₁.setTop (entryFrame m #[(.ref r0), (.int (2 : Int32)), (.int (5 : Int32))] 5)) t := by
    intro t kt
    refine pre6 _ ?_
    show Steps p.tables e below (T4.setTop (mkF m 24 #[rv r0, iv (2 : Int32), iv (5 : Int32), iv (3 : Int32), rv b4] [(.int (3 : Int32)), (.int (6 : Int32)), (.int (0 : Int32)), (.ref b4), (.int (2 : Int32)), (.ref r0)])) _
    refine st7 _ ?_
    exact kt
  obtain ⟨T9, h9, L9, X9, e9, N9, Kc9, Vc9, st9⟩ := cpA X7 hx hZ hown (hw _ (List.mem_of_getElem? (i := 81) rfl)) (hw _ (List.mem_of_getElem? (i := 84) rfl)) (hw _ (List.mem_of_getElem? (i := 82) rfl)) (hw _ (List.mem_of_getElem? (i := 83) rfl)) hh7 (V_r0.ext E4) V_b4 (Or.inl ⟨rfl, rfl⟩) (by decide) (by decide) (by decide) (by decide) (by decide) rfl (by decide) N7 g_b4 (g := (mkF m 27 #[rv r0, iv (2 : Int32), iv (5 : Int32), iv (3 : Int32), rv b4] [(.int (3 : Int32)), (.int (0 : Int32)), (.ref b4), (.int (2 : Int32)), (.ref r0)])) rfl (by rw [hml]; rfl) rfl (hb hby d14_27) (by decide) (W := 0) (by show 2 * 0 + _ ≤ _; exact Nat.le_of_eq rfl) (by decide)
  have K9 : Keep h0 h9 [] := K4.trans Kc9 (allS (Or.inr sz_b4) all0)
  have V9 : Arv Z h9 b4 k4 .byte (3 : Int32) [(.int dd2), (.int dd3), (.int dd4)] (.int (0 : Int32)) := Vc9
  have pre10 : ∀ t, Steps p.tables e below (T9.setTop (mkF m 32 #[rv r0, iv (2 : Int32), iv (5 : Int32), iv (3 : Int32), rv b4] [(.ref b4)])) t → Steps p.tables e below (s₁.setTop (entryFrame m #[(.ref r0), (.int (2 : Int32)), (.int (5 : Int32))] 5)) t := by
    intro t kt
    refine pre8 _ ?_
    show Steps p.tables e below (T7.setTop (mkF m 27 #[rv r0, iv (2 : Int32), iv (5 : Int32), iv (3 : Int32), rv b4] [(.int (3 : Int32)), (.int (0 : Int32)), (.ref b4), (.int (2 : Int32)), (.ref r0)])) _
    refine st9 _ ?_
    show Steps p.tables e below (T9.setTop (mkF m 30 #[rv r0, iv (2 : Int32), iv (5 : Int32), iv (3 : Int32), rv b4] [])) _
    refine XS.aload X9.here hx rfl (hb hby d14_30) rfl rfl ?_
    exact kt
  obtain ⟨fs, hr, hrun, hended, hW, hsame⟩ := X9.leave (v := some (.ref b4)) (fun h => by rw [Bd.returns] at h; cases h)
  refine ⟨_, _, pre10 _ ?_, hrun, hended, _, _, rfl, ?_, ⟨_, rfl⟩, hW, hsame.mono (by decide) (by decide)⟩
  · show Steps p.tables e below (T9.setTop (mkF m 32 #[rv r0, iv (2 : Int32), iv (5 : Int32), iv (3 : Int32), rv b4] [(.ref b4)])) _
    jvm_step X9.here [X9.here.top, hx, (hb hby d14_32), X9.method', Bd.returns, Value.isRef, FieldType.isReference]
    first | (intro acts; rw [hr _ acts rfl rfl rfl]) | rw [hr _ _ rfl rfl rfl]
    exact Steps.refl _
  · show Q14i2_5 Z r0 kc dd0 dd1 dd2 dd3 dd4 dd5 dd6 dd7 h0 n0 _ T9.heap _
    rw [e9]
    exact ⟨b4, rfl, N9, K9⟩

theorem ef_13i2_5 (m : MethodId) (x0 : Addr) (x1 : Int32) (x2 : Int32) : entryFrame m #[(.ref x0), (.int x1), (.int x2)] 3 = mkF m 0 #[.val (.ref x0), .val (.int x1), .val (.int x2)] [] := by first | (simp [entryFrame, mkF, argsToLocals, Value.category]; done) | rfl
def Q13i2_5 (Z : State) (r0 : Addr) (kc : ClassId) (dd0 : Int32) (dd1 : Int32) (dd2 : Int32) (dd3 : Int32) (dd4 : Int32) (dd5 : Int32) (dd6 : Int32) (dd7 : Int32) (h0 : Heap) (n0 : Nat) (v : Option Value) (h : Heap) (L : List Loc) : Prop := ∃ y, v = some (.ref y) ∧ Fr n0 L ∧ Keep h0 h []
set_option maxRecDepth 65536 in
set_option maxHeartbeats 40000000 in
theorem rm13i2_5 (l : Launch) (Z : State) (a0 : Array Value) (hw : ∀ d ∈ tables_1, d.before a0 Z = true) (ws : List Jvm.Cond) (r0 : Addr) (kc : ClassId) (dd0 : Int32) (dd1 : Int32) (dd2 : Int32) (dd3 : Int32) (dd4 : Int32) (dd5 : Int32) (dd6 : Int32) (dd7 : Int32) (h0 : Heap) (n0 : Nat) (Z0 : n0 ≤ h0.size) (V_r0 : Arv Z h0 r0 kc .byte (8 : Int32) [(.int dd0), (.int dd1), (.int dd2), (.int dd3), (.int dd4), (.int dd5), (.int dd6), (.int dd7)] (.int (0 : Int32))) :
    MetFree l (⟨"java/util/Arrays", "copyOfRange", "([BII)[B"⟩ : MethodName) (head1 (Jvm.Cond.code (⟨"java/util/Arrays", "copyOfRange", "([BII)[B"⟩ : MethodName) jdk_65_method_132_code 3 (some (.array .byte)) :: ws) ({ frames := 2, cells := 1, slots := 3, locals := 34 } : Room)) (fun a U => a = #[(.ref r0), (.int (2 : Int32)), (.int (5 : Int32))] ∧ Z.Warmed39 U.vm ∧ U.heap = h0) (fun _ _ _ _ _ => True) (fun _ U o U' => ∃ v L, o = .returned v ∧ Q13i2_5 Z r0 kc dd0 dd1 dd2 dd3 dd4 dd5 dd6 dd7 h0 n0 v U'.heap L ∧ FrameEnd U o U' L ({ frames := 2, cells := 1, slots := 3, locals := 34 } : Room).cells ({ frames := 2, cells := 1, slots := 3, locals := 34 } : Room).slots) := by
  refine MetFree.of_bodySF (plainFor_of_name pn6) hisR ?_
  intro p e s m args below meth c s₁ Bd hml0 hP hK
  obtain ⟨rfl, hZ, hh⟩ := hP
  have hx := Bd.exec
  have hby := Bd.bytes
  have hml : c.maxLocals = 3 := hml0
  have hown : s.vm.findClass "java/util/Arrays" = some m.cls := findClass_of_methodNamed Bd.named
  have hnm := (name_of_methodNamed Bd.named Bd.method).1
  have X0 : Stand p l e ({ frames := 2, cells := 1, slots := 3, locals := 34 } : Room) s m #[(.ref r0), (.int (2 : Int32)), (.int (5 : Int32))] below meth c s₁ [] 0 0 := Stand.of_body Bd
  have e0 : s₁.heap = h0 := by rw [← hh, Bd.state]; rfl
  have N0 := Fr.nil n0
  have pre0 : ∀ t, Steps p.tables e below (s₁.setTop (mkF m 0 #[rv r0, iv (2 : Int32), iv (5 : Int32)] [])) t → Steps p.tables e below (s₁.setTop (entryFrame m #[(.ref r0), (.int (2 : Int32)), (.int (5 : Int32))] 3)) t := fun t k => castTop (ef_13i2_5 m r0 (2 : Int32) (5 : Int32)) k
  have pre1 : ∀ t, Steps p.tables e below (s₁.setTop (mkF m 13 #[rv r0, iv (2 : Int32), iv (5 : Int32)] [(.int (5 : Int32)), (.int (2 : Int32)), (.ref r0)])) t → Steps p.tables e below (s₁.setTop (entryFrame m #[(.ref r0), (.int (2 : Int32)), (.int (5 : Int32))] 3)) t := by
    intro t kt
    refine pre0 _ ?_
    show Steps p.tables e below (s₁.setTop (mkF m 0 #[rv r0, iv (2 : Int32), iv (5 : Int32)] [])) _
    refine XS.iloadN X0.here hx rfl (hb hby d13_0) rfl ?_
    refine XS.ifYes X0.here hx rfl (pc0 := 1) (pc' := 10) rfl (hb hby d13_1) rfl ((if0 _ _).trans (feq (by decide)).2) (by decide) (by decide) ?_
    refine XS.aloadN X0.here hx rfl (hb hby d13_10) rfl rfl ?_
    refine XS.iloadN X0.here hx rfl (hb hby d13_11) rfl ?_
    refine XS.iloadN X0.here hx rfl (hb hby d13_12) rfl ?_
    exact kt
  obtain ⟨_, _, ⟨T2, L2, k2, n2⟩, -, X2, ⟨Lc2, hQ2, l2, y2, z2⟩, st2⟩ := Jvm.LawKit.callS X0 hx (y := (⟨"java/util/Arrays", "copyOfRangeByte", "([BII)[B"⟩ : MethodName)) hown (mvT hZ (hw _ (List.mem_of_getElem? (i := 71) rfl))) (mvT hZ (hw _ (List.mem_of_getElem? (i := 72) rfl))) (mvT hZ (hw _ (List.mem_of_getElem? (i := 69) rfl))) (mvT hZ (hw _ (List.mem_of_getElem? (i := 73) rfl))) (by decide) (backOf (W := 0) (rm14i2_5 l Z a0 hw [] r0 kc dd0 dd1 dd2 dd3 dd4 dd5 dd6 dd7 h0 n0 (Nat.le_trans Z0 (Keep.refl h0 []).1) V_r0) hZ (hw _ (List.mem_of_getElem? (i := 73) rfl)) (hw _ (List.mem_of_getElem? (i := 69) rfl)) (by decide) (by decide)) (g := (mkF m 13 #[rv r0, iv (2 : Int32), iv (5 : Int32)] [(.int (5 : Int32)), (.int (2 : Int32)), (.ref r0)])) rfl (by rw [hml]; rfl) (argsL := [(.ref r0), (.int (2 : Int32)), (.int (5 : Int32))]) (rest := []) (lenOf pd9 rfl) rfl (by show 2 * 0 + _ ≤ _; exact Nat.le_of_eq rfl) (hb hby d13_13) (fun _ _ => ⟨rfl, e0, (by decide : 0 + 1 ≤ _), (by decide : 0 + 3 ≤ _)⟩)
  dsimp only [Pt.U, Pt.locs, Pt.cells, Pt.slots] at X2 l2 y2 z2 st2 hQ2
  subst l2 y2 z2
  obtain ⟨y2, rfl, N2q, Kc2⟩ := hQ2
  have N2 := Fr.app N0 N2q
  have K2 : Keep h0 T2.heap [] := (Keep.refl h0 []).trans Kc2 all0
  have pre3 : ∀ t, Steps p.tables e below (T2.setTop (mkF m 16 #[rv r0, iv (2 : Int32), iv (5 : Int32)] [(.ref y2)])) t → Steps p.tables e below (s₁.setTop (entryFrame m #[(.ref r0), (.int (2 : Int32)), (.int (5 : Int32))] 3)) t := by
    intro t kt
    refine pre1 _ ?_
    show Steps p.tables e below (s₁.setTop (mkF m 13 #[rv r0, iv (2 : Int32), iv (5 : Int32)] [(.int (5 : Int32)), (.int (2 : Int32)), (.ref r0)])) _
    refine st2 _ ?_
    exact kt
  obtain ⟨fs, hr, hrun, hended, hW, hsame⟩ := X2.leave (v := some (.ref y2)) (fun h => by rw [Bd.returns] at h; cases h)
  refine ⟨_, _, pre3 _ ?_, hrun, hended, _, _, rfl, ?_, ⟨_, rfl⟩, hW, hsame.mono (by decide) (by decide)⟩
  · show Steps p.tables e below (T2.setTop (mkF m 16 #[rv r0, iv (2 : Int32), iv (5 : Int32)] [(.ref y2)])) _
    jvm_step X2.here [X2.here.top, hx, (hb hby d13_16), X2.method', Bd.returns, Value.isRef, FieldType.isReference]
    first | (intro acts; rw [hr _ acts rfl rfl rfl]) | rw [hr _ _ rfl rfl rfl]
    exact Steps.refl _
  · show Q13i2_5 Z r0 kc dd0 dd1 dd2 dd3 dd4 dd5 dd6 dd7 h0 n0 _ T2.heap _
    exact ⟨y2, rfl, N2, K2⟩

theorem ef_14i5_8 (m : MethodId) (x0 : Addr) (x1 : Int32) (x2 : Int32) : entryFrame m #[(.ref x0), (.int x1), (.int x2)] 5 = mkF m 0 #[.val (.ref x0), .val (.int x1), .val (.int x2), .unset, .unset] [] := by first | (simp [entryFrame, mkF, argsToLocals, Value.category]; done) | rfl
def Q14i5_8 (Z : State) (r0 : Addr) (kc : ClassId) (dd0 : Int32) (dd1 : Int32) (dd2 : Int32) (dd3 : Int32) (dd4 : Int32) (dd5 : Int32) (dd6 : Int32) (dd7 : Int32) (h0 : Heap) (n0 : Nat) (v : Option Value) (h : Heap) (L : List Loc) : Prop := ∃ y, v = some (.ref y) ∧ Fr n0 L ∧ Keep h0 h []
set_option maxRecDepth 65536 in
set_option maxHeartbeats 40000000 in
theorem rm14i5_8 (l : Launch) (Z : State) (a0 : Array Value) (hw : ∀ d ∈ tables_1, d.before a0 Z = true) (ws : List Jvm.Cond) (r0 : Addr) (kc : ClassId) (dd0 : Int32) (dd1 : Int32) (dd2 : Int32) (dd3 : Int32) (dd4 : Int32) (dd5 : Int32) (dd6 : Int32) (dd7 : Int32) (h0 : Heap) (n0 : Nat) (Z0 : n0 ≤ h0.size) (V_r0 : Arv Z h0 r0 kc .byte (8 : Int32) [(.int dd0), (.int dd1), (.int dd2), (.int dd3), (.int dd4), (.int dd5), (.int dd6), (.int dd7)] (.int (0 : Int32))) :
    MetFree l (⟨"java/util/Arrays", "copyOfRangeByte", "([BII)[B"⟩ : MethodName) (head1 (Jvm.Cond.code (⟨"java/util/Arrays", "copyOfRangeByte", "([BII)[B"⟩ : MethodName) jdk_65_method_133_code 5 (some (.array .byte)) :: ws) ({ frames := 1, cells := 1, slots := 3, locals := 18 } : Room)) (fun a U => a = #[(.ref r0), (.int (5 : Int32)), (.int (8 : Int32))] ∧ Z.Warmed39 U.vm ∧ U.heap = h0) (fun _ _ _ _ _ => True) (fun _ U o U' => ∃ v L, o = .returned v ∧ Q14i5_8 Z r0 kc dd0 dd1 dd2 dd3 dd4 dd5 dd6 dd7 h0 n0 v U'.heap L ∧ FrameEnd U o U' L ({ frames := 1, cells := 1, slots := 3, locals := 18 } : Room).cells ({ frames := 1, cells := 1, slots := 3, locals := 18 } : Room).slots) := by
  refine MetFree.of_bodySF (plainFor_of_name pn6) hisR ?_
  intro p e s m args below meth c s₁ Bd hml0 hP hK
  obtain ⟨rfl, hZ, hh⟩ := hP
  have hx := Bd.exec
  have hby := Bd.bytes
  have hml : c.maxLocals = 5 := hml0
  have hown : s.vm.findClass "java/util/Arrays" = some m.cls := findClass_of_methodNamed Bd.named
  have hnm := (name_of_methodNamed Bd.named Bd.method).1
  have X0 : Stand p l e ({ frames := 1, cells := 1, slots := 3, locals := 18 } : Room) s m #[(.ref r0), (.int (5 : Int32)), (.int (8 : Int32))] below meth c s₁ [] 0 0 := Stand.of_body Bd
  have e0 : s₁.heap = h0 := by rw [← hh, Bd.state]; rfl
  have N0 := Fr.nil n0
  have pre0 : ∀ t, Steps p.tables e below (s₁.setTop (mkF m 0 #[rv r0, iv (5 : Int32), iv (8 : Int32), .unset, .unset] [])) t → Steps p.tables e below (s₁.setTop (entryFrame m #[(.ref r0), (.int (5 : Int32)), (.int (8 : Int32))] 5)) t := fun t k => castTop (ef_14i5_8 m r0 (5 : Int32) (8 : Int32)) k
  have pre1 : ∀ t, Steps p.tables e below (s₁.setTop (mkF m 2 #[rv r0, iv (5 : Int32), iv (8 : Int32), .unset, .unset] [(.int (8 : Int32)), (.int (5 : Int32))])) t → Steps p.tables e below (s₁.setTop (entryFrame m #[(.ref r0), (.int (5 : Int32)), (.int (8 : Int32))] 5)) t := by
    intro t kt
    refine pre0 _ ?_
    show Steps p.tables e below (s₁.setTop (mkF m 0 #[rv r0, iv (5 : Int32), iv (8 : Int32), .unset, .unset] [])) _
    refine XS.iloadN X0.here hx rfl (hb hby d14_0) rfl ?_
    refine XS.iloadN X0.here hx rfl (hb hby d14_1) rfl ?_
    exact kt
  obtain ⟨_, _, ⟨T2, L2, k2, n2⟩, -, X2, ⟨Lc2, hQ2, l2, y2, z2⟩, st2⟩ := Jvm.LawKit.callS X0 hx (y := (⟨"java/util/Arrays", "checkLength", "(II)V"⟩ : MethodName)) hown (mvT hZ (hw _ (List.mem_of_getElem? (i := 74) rfl))) (mvT hZ (hw _ (List.mem_of_getElem? (i := 75) rfl))) (mvT hZ (hw _ (List.mem_of_getElem? (i := 69) rfl))) (mvT hZ (hw _ (List.mem_of_getElem? (i := 76) rfl))) (by decide) (backOf (W := 0) (rm15 l Z a0 hw [] (5 : Int32) (8 : Int32) h0 n0 (Nat.le_trans Z0 (Keep.refl h0 []).1) (by decide)) hZ (hw _ (List.mem_of_getElem? (i := 76) rfl)) (hw _ (List.mem_of_getElem? (i := 69) rfl)) (by decide) (by decide)) (g := (mkF m 2 #[rv r0, iv (5 : Int32), iv (8 : Int32), .unset, .unset] [(.int (8 : Int32)), (.int (5 : Int32))])) rfl (by rw [hml]; rfl) (argsL := [(.int (5 : Int32)), (.int (8 : Int32))]) (rest := []) (lenOf pd7 rfl) rfl (by show 2 * 0 + _ ≤ _; exact Nat.le_of_eq rfl) (hb hby d14_2) (fun _ _ => ⟨rfl, e0, (by decide : 0 + 0 ≤ _), (by decide : 0 + 0 ≤ _)⟩)
  dsimp only [Pt.U, Pt.locs, Pt.cells, Pt.slots] at X2 l2 y2 z2 st2 hQ2
  subst l2 y2 z2
  obtain ⟨rfl, N2q, hh2⟩ := hQ2
  have N2 := Fr.app N0 N2q
  have pre3 : ∀ t, Steps p.tables e below (T2.setTop (mkF m 10 #[rv r0, iv (5 : Int32), iv (8 : Int32), iv (3 : Int32), .unset] [(.int (3 : Int32))])) t → Steps p.tables e below (s₁.setTop (entryFrame m #[(.ref r0), (.int (5 : Int32)), (.int (8 : Int32))] 5)) t := by
    intro t kt
    refine pre1 _ ?_
    show Steps p.tables e below (s₁.setTop (mkF m 2 #[rv r0, iv (5 : Int32), iv (8 : Int32), .unset, .unset] [(.int (8 : Int32)), (.int (5 : Int32))])) _
    refine st2 _ ?_
    show Steps p.tables e below (T2.setTop (mkF m 5 #[rv r0, iv (5 : Int32), iv (8 : Int32), .unset, .unset] [])) _
    refine XS.iloadN X2.here hx rfl (hb hby d14_5) rfl ?_
    refine XS.iloadN X2.here hx rfl (hb hby d14_6) rfl ?_
    refine XS.isub X2.here hx rfl (hb hby d14_7) rfl ?_
    show Steps p.tables e below (T2.setTop (mkF m 8 #[rv r0, iv (5 : Int32), iv (8 : Int32), .unset, .unset] [(.int ((8 : Int32) - (5 : Int32)))])) _
    rw [show ((8 : Int32) - (5 : Int32)) = (3 : Int32) from (by decide)]
    show Steps p.tables e below (T2.setTop (mkF m 8 #[rv r0, iv (5 : Int32), iv (8 : Int32), .unset, .unset] [(.int (3 : Int32))])) _
    refine XS.istoreN X2.here hx rfl (hb hby d14_8) rfl (l' := #[rv r0, iv (5 : Int32), iv (8 : Int32), iv (3 : Int32), .unset]) rfl ?_
    refine XS.iloadN X2.here hx rfl (hb hby d14_9) rfl ?_
    exact kt
  obtain ⟨T4, h4, k4, X4, e4, E4, A4, Ex4, st4⟩ := newPE X2 hx hZ (hw _ (List.mem_of_getElem? (i := 4) rfl)) hh2 (g := (mkF m 10 #[rv r0, iv (5 : Int32), iv (8 : Int32), iv (3 : Int32), .unset] [(.int (3 : Int32))])) rfl (hb hby d14_10) rfl (by decide) (cap := 3) (by decide) (by decide) (by decide) (by decide) (ad := "[B") rfl
  obtain ⟨b4, g4⟩ : ∃ z, z = h0.size := ⟨_, rfl⟩
  rw [← g4] at A4 Ex4 st4
  have g_b4 : n0 ≤ b4 := Nat.le_trans (Nat.le_trans Z0 (Keep.refl h0 []).1) (Nat.le_of_eq g4.symm)
  have sz_b4 : h0.size ≤ b4 := Nat.le_trans (Keep.refl h0 []).1 (Nat.le_of_eq g4.symm)
  have V_b4 : Arv Z h4 b4 k4 .byte (3 : Int32) [(.int (0 : Int32)), (.int (0 : Int32)), (.int (0 : Int32))] (.int (0 : Int32)) := (Arv.new A4 (by decide)).pad (pad_rep [] (.int (0 : Int32)) 3)
  have K4 : Keep h0 h4 [] := (Keep.refl h0 []).ext E4
  obtain ⟨cl5, Ar5, -, S5, M5, -, -⟩ := id (V_r0.ext E4)
  have pre6 : ∀ t, Steps p.tables e below (T4.setTop (mkF m 24 #[rv r0, iv (5 : Int32), iv (8 : Int32), iv (3 : Int32), rv b4] [(.int (3 : Int32)), (.int (3 : Int32)), (.int (0 : Int32)), (.ref b4), (.int (5 : Int32)), (.ref r0)])) t → Steps p.tables e below (s₁.setTop (entryFrame m #[(.ref r0), (.int (5 : Int32)), (.int (8 : Int32))] 5)) t := by
    intro t kt
    refine pre3 _ ?_
    show Steps p.tables e below (T2.setTop (mkF m 10 #[rv r0, iv (5 : Int32), iv (8 : Int32), iv (3 : Int32), .unset] [(.int (3 : Int32))])) _
    refine st4 _ ?_
    show Steps p.tables e below (T4.setTop (mkF m 12 #[rv r0, iv (5 : Int32), iv (8 : Int32), iv (3 : Int32), .unset] [(.ref b4)])) _
    refine XS.astore X4.here hx rfl (hb hby d14_12) rfl rfl (l' := #[rv r0, iv (5 : Int32), iv (8 : Int32), iv (3 : Int32), rv b4]) rfl ?_
    refine XS.aloadN X4.here hx rfl (hb hby d14_14) rfl rfl ?_
    refine XS.iloadN X4.here hx rfl (hb hby d14_15) rfl ?_
    refine XS.aload X4.here hx rfl (hb hby d14_16) rfl rfl ?_
    refine XS.iconst X4.here hx rfl (hb hby d14_18) ?_
    refine XS.aloadN X4.here hx rfl (hb hby d14_19) rfl rfl ?_
    refine X4.arraylength hx (by rw [e4]; exact Ar5.1) (State.isArrayOf_alike hZ.alike Ar5.2.1) (g := (mkF m 20 #[rv r0, iv (5 : Int32), iv (8 : Int32), iv (3 : Int32), rv b4] [(.ref r0), (.int (0 : Int32)), (.ref b4), (.int (5 : Int32)), (.ref r0)])) rfl rfl (hb hby d14_20) _ ?_
    rw [len_of S5 M5]
    show Steps p.tables e below (T4.setTop (mkF m 21 #[rv r0, iv (5 : Int32), iv (8 : Int32), iv (3 : Int32), rv b4] [(.int (8 : Int32)), (.int (0 : Int32)), (.ref b4), (.int (5 : Int32)), (.ref r0)])) _
    refine XS.iloadN X4.here hx rfl (hb hby d14_21) rfl ?_
    refine XS.isub X4.here hx rfl (hb hby d14_22) rfl ?_
    show Steps p.tables e below (T4.setTop (mkF m 23 #[rv r0, iv (5 : Int32), iv (8 : Int32), iv (3 : Int32), rv b4] [(.int ((8 : Int32) - (5 : Int32))), (.int (0 : Int32)), (.ref b4), (.int (5 : Int32)), (.ref r0)])) _
    rw [show ((8 : Int32) - (5 : Int32)) = (3 : Int32) from (by decide)]
    show Steps p.tables e below (T4.setTop (mkF m 23 #[rv r0, iv (5 : Int32), iv (8 : Int32), iv (3 : Int32), rv b4] [(.int (3 : Int32)), (.int (0 : Int32)), (.ref b4), (.int (5 : Int32)), (.ref r0)])) _
    refine XS.iloadN X4.here hx rfl (hb hby d14_23) rfl ?_
    exact kt
  obtain ⟨_, _, ⟨T7, L7, k7, n7⟩, -, X7, ⟨Lc7, hQ7, l7, y7, z7⟩, st7⟩ := Jvm.LawKit.callS X4 hx (y := (⟨"java/lang/Math", "min", "(II)I"⟩ : MethodName)) hown (mvT hZ (hw _ (List.mem_of_getElem? (i := 77) rfl))) (mvT hZ (hw _ (List.mem_of_getElem? (i := 78) rfl))) (mvT hZ (hw _ (List.mem_of_getElem? (i := 79) rfl))) (mvT hZ (hw _ (List.mem_of_getElem? (i := 80) rfl))) (by decide) (backOf (W := 4) (rm16i0 l Z a0 hw [] (3 : Int32) (3 : Int32) h4 n0 (Nat.le_trans Z0 K4.1) (by decide)) hZ (hw _ (List.mem_of_getElem? (i := 80) rfl)) (hw _ (List.mem_of_getElem? (i := 79) rfl)) (by decide) (by decide)) (g := (mkF m 24 #[rv r0, iv (5 : Int32), iv (8 : Int32), iv (3 : Int32), rv b4] [(.int (3 : Int32)), (.int (3 : Int32)), (.int (0 : Int32)), (.ref b4), (.int (5 : Int32)), (.ref r0)])) rfl (by rw [hml]; rfl) (argsL := [(.int (3 : Int32)), (.int (3 : Int32))]) (rest := [(.int (0 : Int32)), (.ref b4), (.int (5 : Int32)), (.ref r0)]) (lenOf pd8 rfl) rfl (by show 2 * 0 + _ ≤ _; exact Nat.le_of_eq rfl) (hb hby d14_24) (fun _ _ => ⟨rfl, e4, (by decide : 1 + 0 ≤ _), (by decide : 3 + 0 ≤ _)⟩)
  dsimp only [Pt.U, Pt.locs, Pt.cells, Pt.slots] at X7 l7 y7 z7 st7 hQ7
  subst l7 y7 z7
  obtain ⟨rfl, N7q, hh7⟩ := hQ7
  have N7 := Fr.app N2 N7q
  have pre8 : ∀ t, Steps p.tables e below (T7.setTop (mkF m 27 #[rv r0, iv (5 : Int32), iv (8 : Int32), iv (3 : Int32), rv b4] [(.int (3 : Int32)), (.int (0 : Int32)), (.ref b4), (.int (5 : Int32)), (.ref r0)])) t → Steps p.tables e below (s₁.setTop (entryFrame m #[(.ref r0), (.int (5 : Int32)), (.int (8 : Int32))] 5)) t := by
    intro t kt
    refine pre6 _ ?_
    show Steps p.tables e below (T4.setTop (mkF m 24 #[rv r0, iv (5 : Int32), iv (8 : Int32), iv (3 : Int32), rv b4] [(.int (3 : Int32)), (.int (3 : Int32)), (.int (0 : Int32)), (.ref b4), (.int (5 : Int32)), (.ref r0)])) _
    refine st7 _ ?_
    exact kt
  obtain ⟨T9, h9, L9, X9, e9, N9, Kc9, Vc9, st9⟩ := cpA X7 hx hZ hown (hw _ (List.mem_of_getElem? (i := 81) rfl)) (hw _ (List.mem_of_getElem? (i := 84) rfl)) (hw _ (List.mem_of_getElem? (i := 82) rfl)) (hw _ (List.mem_of_getElem? (i := 83) rfl)) hh7 (V_r0.ext E4) V_b4 (Or.inl ⟨rfl, rfl⟩) (by decide) (by decide) (by decide) (by decide) (by decide) rfl (by decide) N7 g_b4 (g := (mkF m 27 #[rv r0, iv (5 : Int32), iv (8 : Int32), iv (3 : Int32), rv b4] [(.int (3 : Int32)), (.int (0 : Int32)), (.ref b4), (.int (5 : Int32)), (.ref r0)])) rfl (by rw [hml]; rfl) rfl (hb hby d14_27) (by decide) (W := 0) (by show 2 * 0 + _ ≤ _; exact Nat.le_of_eq rfl) (by decide)
  have K9 : Keep h0 h9 [] := K4.trans Kc9 (allS (Or.inr sz_b4) all0)
  have V9 : Arv Z h9 b4 k4 .byte (3 : Int32) [(.int dd5), (.int dd6), (.int dd7)] (.int (0 : Int32)) := Vc9
  have pre10 : ∀ t, Steps p.tables e below (T9.setTop (mkF m 32 #[rv r0, iv (5 : Int32), iv (8 : Int32), iv (3 : Int32), rv b4] [(.ref b4)])) t → Steps p.tables e below (s₁.setTop (entryFrame m #[(.ref r0), (.int (5 : Int32)), (.int (8 : Int32))] 5)) t := by
    intro t kt
    refine pre8 _ ?_
    show Steps p.tables e below (T7.setTop (mkF m 27 #[rv r0, iv (5 : Int32), iv (8 : Int32), iv (3 : Int32), rv b4] [(.int (3 : Int32)), (.int (0 : Int32)), (.ref b4), (.int (5 : Int32)), (.ref r0)])) _
    refine st9 _ ?_
    show Steps p.tables e below (T9.setTop (mkF m 30 #[rv r0, iv (5 : Int32), iv (8 : Int32), iv (3 : Int32), rv b4] [])) _
    refine XS.aload X9.here hx rfl (hb hby d14_30) rfl rfl ?_
    exact kt
  obtain ⟨fs, hr, hrun, hended, hW, hsame⟩ := X9.leave (v := some (.ref b4)) (fun h => by rw [Bd.returns] at h; cases h)
  refine ⟨_, _, pre10 _ ?_, hrun, hended, _, _, rfl, ?_, ⟨_, rfl⟩, hW, hsame.mono (by decide) (by decide)⟩
  · show Steps p.tables e below (T9.setTop (mkF m 32 #[rv r0, iv (5 : Int32), iv (8 : Int32), iv (3 : Int32), rv b4] [(.ref b4)])) _
    jvm_step X9.here [X9.here.top, hx, (hb hby d14_32), X9.method', Bd.returns, Value.isRef, FieldType.isReference]
    first | (intro acts; rw [hr _ acts rfl rfl rfl]) | rw [hr _ _ rfl rfl rfl]
    exact Steps.refl _
  · show Q14i5_8 Z r0 kc dd0 dd1 dd2 dd3 dd4 dd5 dd6 dd7 h0 n0 _ T9.heap _
    rw [e9]
    exact ⟨b4, rfl, N9, K9⟩

theorem ef_13i5_8 (m : MethodId) (x0 : Addr) (x1 : Int32) (x2 : Int32) : entryFrame m #[(.ref x0), (.int x1), (.int x2)] 3 = mkF m 0 #[.val (.ref x0), .val (.int x1), .val (.int x2)] [] := by first | (simp [entryFrame, mkF, argsToLocals, Value.category]; done) | rfl
def Q13i5_8 (Z : State) (r0 : Addr) (kc : ClassId) (dd0 : Int32) (dd1 : Int32) (dd2 : Int32) (dd3 : Int32) (dd4 : Int32) (dd5 : Int32) (dd6 : Int32) (dd7 : Int32) (h0 : Heap) (n0 : Nat) (v : Option Value) (h : Heap) (L : List Loc) : Prop := ∃ y, v = some (.ref y) ∧ Fr n0 L ∧ Keep h0 h []
set_option maxRecDepth 65536 in
set_option maxHeartbeats 40000000 in
theorem rm13i5_8 (l : Launch) (Z : State) (a0 : Array Value) (hw : ∀ d ∈ tables_1, d.before a0 Z = true) (ws : List Jvm.Cond) (r0 : Addr) (kc : ClassId) (dd0 : Int32) (dd1 : Int32) (dd2 : Int32) (dd3 : Int32) (dd4 : Int32) (dd5 : Int32) (dd6 : Int32) (dd7 : Int32) (h0 : Heap) (n0 : Nat) (Z0 : n0 ≤ h0.size) (V_r0 : Arv Z h0 r0 kc .byte (8 : Int32) [(.int dd0), (.int dd1), (.int dd2), (.int dd3), (.int dd4), (.int dd5), (.int dd6), (.int dd7)] (.int (0 : Int32))) :
    MetFree l (⟨"java/util/Arrays", "copyOfRange", "([BII)[B"⟩ : MethodName) (head1 (Jvm.Cond.code (⟨"java/util/Arrays", "copyOfRange", "([BII)[B"⟩ : MethodName) jdk_65_method_132_code 3 (some (.array .byte)) :: ws) ({ frames := 2, cells := 1, slots := 3, locals := 34 } : Room)) (fun a U => a = #[(.ref r0), (.int (5 : Int32)), (.int (8 : Int32))] ∧ Z.Warmed39 U.vm ∧ U.heap = h0) (fun _ _ _ _ _ => True) (fun _ U o U' => ∃ v L, o = .returned v ∧ Q13i5_8 Z r0 kc dd0 dd1 dd2 dd3 dd4 dd5 dd6 dd7 h0 n0 v U'.heap L ∧ FrameEnd U o U' L ({ frames := 2, cells := 1, slots := 3, locals := 34 } : Room).cells ({ frames := 2, cells := 1, slots := 3, locals := 34 } : Room).slots) := by
  refine MetFree.of_bodySF (plainFor_of_name pn6) hisR ?_
  intro p e s m args below meth c s₁ Bd hml0 hP hK
  obtain ⟨rfl, hZ, hh⟩ := hP
  have hx := Bd.exec
  have hby := Bd.bytes
  have hml : c.maxLocals = 3 := hml0
  have hown : s.vm.findClass "java/util/Arrays" = some m.cls := findClass_of_methodNamed Bd.named
  have hnm := (name_of_methodNamed Bd.named Bd.method).1
  have X0 : Stand p l e ({ frames := 2, cells := 1, slots := 3, locals := 34 } : Room) s m #[(.ref r0), (.int (5 : Int32)), (.int (8 : Int32))] below meth c s₁ [] 0 0 := Stand.of_body Bd
  have e0 : s₁.heap = h0 := by rw [← hh, Bd.state]; rfl
  have N0 := Fr.nil n0
  have pre0 : ∀ t, Steps p.tables e below (s₁.setTop (mkF m 0 #[rv r0, iv (5 : Int32), iv (8 : Int32)] [])) t → Steps p.tables e below (s₁.setTop (entryFrame m #[(.ref r0), (.int (5 : Int32)), (.int (8 : Int32))] 3)) t := fun t k => castTop (ef_13i5_8 m r0 (5 : Int32) (8 : Int32)) k
  have pre1 : ∀ t, Steps p.tables e below (s₁.setTop (mkF m 13 #[rv r0, iv (5 : Int32), iv (8 : Int32)] [(.int (8 : Int32)), (.int (5 : Int32)), (.ref r0)])) t → Steps p.tables e below (s₁.setTop (entryFrame m #[(.ref r0), (.int (5 : Int32)), (.int (8 : Int32))] 3)) t := by
    intro t kt
    refine pre0 _ ?_
    show Steps p.tables e below (s₁.setTop (mkF m 0 #[rv r0, iv (5 : Int32), iv (8 : Int32)] [])) _
    refine XS.iloadN X0.here hx rfl (hb hby d13_0) rfl ?_
    refine XS.ifYes X0.here hx rfl (pc0 := 1) (pc' := 10) rfl (hb hby d13_1) rfl ((if0 _ _).trans (feq (by decide)).2) (by decide) (by decide) ?_
    refine XS.aloadN X0.here hx rfl (hb hby d13_10) rfl rfl ?_
    refine XS.iloadN X0.here hx rfl (hb hby d13_11) rfl ?_
    refine XS.iloadN X0.here hx rfl (hb hby d13_12) rfl ?_
    exact kt
  obtain ⟨_, _, ⟨T2, L2, k2, n2⟩, -, X2, ⟨Lc2, hQ2, l2, y2, z2⟩, st2⟩ := Jvm.LawKit.callS X0 hx (y := (⟨"java/util/Arrays", "copyOfRangeByte", "([BII)[B"⟩ : MethodName)) hown (mvT hZ (hw _ (List.mem_of_getElem? (i := 71) rfl))) (mvT hZ (hw _ (List.mem_of_getElem? (i := 72) rfl))) (mvT hZ (hw _ (List.mem_of_getElem? (i := 69) rfl))) (mvT hZ (hw _ (List.mem_of_getElem? (i := 73) rfl))) (by decide) (backOf (W := 0) (rm14i5_8 l Z a0 hw [] r0 kc dd0 dd1 dd2 dd3 dd4 dd5 dd6 dd7 h0 n0 (Nat.le_trans Z0 (Keep.refl h0 []).1) V_r0) hZ (hw _ (List.mem_of_getElem? (i := 73) rfl)) (hw _ (List.mem_of_getElem? (i := 69) rfl)) (by decide) (by decide)) (g := (mkF m 13 #[rv r0, iv (5 : Int32), iv (8 : Int32)] [(.int (8 : Int32)), (.int (5 : Int32)), (.ref r0)])) rfl (by rw [hml]; rfl) (argsL := [(.ref r0), (.int (5 : Int32)), (.int (8 : Int32))]) (rest := []) (lenOf pd9 rfl) rfl (by show 2 * 0 + _ ≤ _; exact Nat.le_of_eq rfl) (hb hby d13_13) (fun _ _ => ⟨rfl, e0, (by decide : 0 + 1 ≤ _), (by decide : 0 + 3 ≤ _)⟩)
  dsimp only [Pt.U, Pt.locs, Pt.cells, Pt.slots] at X2 l2 y2 z2 st2 hQ2
  subst l2 y2 z2
  obtain ⟨y2, rfl, N2q, Kc2⟩ := hQ2
  have N2 := Fr.app N0 N2q
  have K2 : Keep h0 T2.heap [] := (Keep.refl h0 []).trans Kc2 all0
  have pre3 : ∀ t, Steps p.tables e below (T2.setTop (mkF m 16 #[rv r0, iv (5 : Int32), iv (8 : Int32)] [(.ref y2)])) t → Steps p.tables e below (s₁.setTop (entryFrame m #[(.ref r0), (.int (5 : Int32)), (.int (8 : Int32))] 3)) t := by
    intro t kt
    refine pre1 _ ?_
    show Steps p.tables e below (s₁.setTop (mkF m 13 #[rv r0, iv (5 : Int32), iv (8 : Int32)] [(.int (8 : Int32)), (.int (5 : Int32)), (.ref r0)])) _
    refine st2 _ ?_
    exact kt
  obtain ⟨fs, hr, hrun, hended, hW, hsame⟩ := X2.leave (v := some (.ref y2)) (fun h => by rw [Bd.returns] at h; cases h)
  refine ⟨_, _, pre3 _ ?_, hrun, hended, _, _, rfl, ?_, ⟨_, rfl⟩, hW, hsame.mono (by decide) (by decide)⟩
  · show Steps p.tables e below (T2.setTop (mkF m 16 #[rv r0, iv (5 : Int32), iv (8 : Int32)] [(.ref y2)])) _
    jvm_step X2.here [X2.here.top, hx, (hb hby d13_16), X2.method', Bd.returns, Value.isRef, FieldType.isReference]
    first | (intro acts; rw [hr _ acts rfl rfl rfl]) | rw [hr _ _ rfl rfl rfl]
    exact Steps.refl _
  · show Q13i5_8 Z r0 kc dd0 dd1 dd2 dd3 dd4 dd5 dd6 dd7 h0 n0 _ T2.heap _
    exact ⟨y2, rfl, N2, K2⟩

theorem ef_14i4_6 (m : MethodId) (x0 : Addr) (x1 : Int32) (x2 : Int32) : entryFrame m #[(.ref x0), (.int x1), (.int x2)] 5 = mkF m 0 #[.val (.ref x0), .val (.int x1), .val (.int x2), .unset, .unset] [] := by first | (simp [entryFrame, mkF, argsToLocals, Value.category]; done) | rfl
def Q14i4_6 (Z : State) (r0 : Addr) (kc : ClassId) (dd0 : Int32) (dd1 : Int32) (dd2 : Int32) (dd3 : Int32) (dd4 : Int32) (dd5 : Int32) (dd6 : Int32) (dd7 : Int32) (h0 : Heap) (n0 : Nat) (v : Option Value) (h : Heap) (L : List Loc) : Prop := ∃ y, v = some (.ref y) ∧ Fr n0 L ∧ Keep h0 h []
set_option maxRecDepth 65536 in
set_option maxHeartbeats 40000000 in
theorem rm14i4_6 (l : Launch) (Z : State) (a0 : Array Value) (hw : ∀ d ∈ tables_1, d.before a0 Z = true) (ws : List Jvm.Cond) (r0 : Addr) (kc : ClassId) (dd0 : Int32) (dd1 : Int32) (dd2 : Int32) (dd3 : Int32) (dd4 : Int32) (dd5 : Int32) (dd6 : Int32) (dd7 : Int32) (h0 : Heap) (n0 : Nat) (Z0 : n0 ≤ h0.size) (V_r0 : Arv Z h0 r0 kc .byte (8 : Int32) [(.int dd0), (.int dd1), (.int dd2), (.int dd3), (.int dd4), (.int dd5), (.int dd6), (.int dd7)] (.int (0 : Int32))) :
    MetFree l (⟨"java/util/Arrays", "copyOfRangeByte", "([BII)[B"⟩ : MethodName) (head1 (Jvm.Cond.code (⟨"java/util/Arrays", "copyOfRangeByte", "([BII)[B"⟩ : MethodName) jdk_65_method_133_code 5 (some (.array .byte)) :: ws) ({ frames := 1, cells := 1, slots := 2, locals := 18 } : Room)) (fun a U => a = #[(.ref r0), (.int (4 : Int32)), (.int (6 : Int32))] ∧ Z.Warmed39 U.vm ∧ U.heap = h0) (fun _ _ _ _ _ => True) (fun _ U o U' => ∃ v L, o = .returned v ∧ Q14i4_6 Z r0 kc dd0 dd1 dd2 dd3 dd4 dd5 dd6 dd7 h0 n0 v U'.heap L ∧ FrameEnd U o U' L ({ frames := 1, cells := 1, slots := 2, locals := 18 } : Room).cells ({ frames := 1, cells := 1, slots := 2, locals := 18 } : Room).slots) := by
  refine MetFree.of_bodySF (plainFor_of_name pn6) hisR ?_
  intro p e s m args below meth c s₁ Bd hml0 hP hK
  obtain ⟨rfl, hZ, hh⟩ := hP
  have hx := Bd.exec
  have hby := Bd.bytes
  have hml : c.maxLocals = 5 := hml0
  have hown : s.vm.findClass "java/util/Arrays" = some m.cls := findClass_of_methodNamed Bd.named
  have hnm := (name_of_methodNamed Bd.named Bd.method).1
  have X0 : Stand p l e ({ frames := 1, cells := 1, slots := 2, locals := 18 } : Room) s m #[(.ref r0), (.int (4 : Int32)), (.int (6 : Int32))] below meth c s₁ [] 0 0 := Stand.of_body Bd
  have e0 : s₁.heap = h0 := by rw [← hh, Bd.state]; rfl
  have N0 := Fr.nil n0
  have pre0 : ∀ t, Steps p.tables e below (s₁.setTop (mkF m 0 #[rv r0, iv (4 : Int32), iv (6 : Int32), .unset, .unset] [])) t → Steps p.tables e below (s₁.setTop (entryFrame m #[(.ref r0), (.int (4 : Int32)), (.int (6 : Int32))] 5)) t := fun t k => castTop (ef_14i4_6 m r0 (4 : Int32) (6 : Int32)) k
  have pre1 : ∀ t, Steps p.tables e below (s₁.setTop (mkF m 2 #[rv r0, iv (4 : Int32), iv (6 : Int32), .unset, .unset] [(.int (6 : Int32)), (.int (4 : Int32))])) t → Steps p.tables e below (s₁.setTop (entryFrame m #[(.ref r0), (.int (4 : Int32)), (.int (6 : Int32))] 5)) t := by
    intro t kt
    refine pre0 _ ?_
    show Steps p.tables e below (s₁.setTop (mkF m 0 #[rv r0, iv (4 : Int32), iv (6 : Int32), .unset, .unset] [])) _
    refine XS.iloadN X0.here hx rfl (hb hby d14_0) rfl ?_
    refine XS.iloadN X0.here hx rfl (hb hby d14_1) rfl ?_
    exact kt
  obtain ⟨_, _, ⟨T2, L2, k2, n2⟩, -, X2, ⟨Lc2, hQ2, l2, y2, z2⟩, st2⟩ := Jvm.LawKit.callS X0 hx (y := (⟨"java/util/Arrays", "checkLength", "(II)V"⟩ : MethodName)) hown (mvT hZ (hw _ (List.mem_of_getElem? (i := 74) rfl))) (mvT hZ (hw _ (List.mem_of_getElem? (i := 75) rfl))) (mvT hZ (hw _ (List.mem_of_getElem? (i := 69) rfl))) (mvT hZ (hw _ (List.mem_of_getElem? (i := 76) rfl))) (by decide) (backOf (W := 0) (rm15 l Z a0 hw [] (4 : Int32) (6 : Int32) h0 n0 (Nat.le_trans Z0 (Keep.refl h0 []).1) (by decide)) hZ (hw _ (List.mem_of_getElem? (i := 76) rfl)) (hw _ (List.mem_of_getElem? (i := 69) rfl)) (by decide) (by decide)) (g := (mkF m 2 #[rv r0, iv (4 : Int32), iv (6 : Int32), .unset, .unset] [(.int (6 : Int32)), (.int (4 : Int32))])) rfl (by rw [hml]; rfl) (argsL := [(.int (4 : Int32)), (.int (6 : Int32))]) (rest := []) (lenOf pd7 rfl) rfl (by show 2 * 0 + _ ≤ _; exact Nat.le_of_eq rfl) (hb hby d14_2) (fun _ _ => ⟨rfl, e0, (by decide : 0 + 0 ≤ _), (by decide : 0 + 0 ≤ _)⟩)
  dsimp only [Pt.U, Pt.locs, Pt.cells, Pt.slots] at X2 l2 y2 z2 st2 hQ2
  subst l2 y2 z2
  obtain ⟨rfl, N2q, hh2⟩ := hQ2
  have N2 := Fr.app N0 N2q
  have pre3 : ∀ t, Steps p.tables e below (T2.setTop (mkF m 10 #[rv r0, iv (4 : Int32), iv (6 : Int32), iv (2 : Int32), .unset] [(.int (2 : Int32))])) t → Steps p.tables e below (s₁.setTop (entryFrame m #[(.ref r0), (.int (4 : Int32)), (.int (6 : Int32))] 5)) t := by
    intro t kt
    refine pre1 _ ?_
    show Steps p.tables e below (s₁.setTop (mkF m 2 #[rv r0, iv (4 : Int32), iv (6 : Int32), .unset, .unset] [(.int (6 : Int32)), (.int (4 : Int32))])) _
    refine st2 _ ?_
    show Steps p.tables e below (T2.setTop (mkF m 5 #[rv r0, iv (4 : Int32), iv (6 : Int32), .unset, .unset] [])) _
    refine XS.iloadN X2.here hx rfl (hb hby d14_5) rfl ?_
    refine XS.iloadN X2.here hx rfl (hb hby d14_6) rfl ?_
    refine XS.isub X2.here hx rfl (hb hby d14_7) rfl ?_
    show Steps p.tables e below (T2.setTop (mkF m 8 #[rv r0, iv (4 : Int32), iv (6 : Int32), .unset, .unset] [(.int ((6 : Int32) - (4 : Int32)))])) _
    rw [show ((6 : Int32) - (4 : Int32)) = (2 : Int32) from (by decide)]
    show Steps p.tables e below (T2.setTop (mkF m 8 #[rv r0, iv (4 : Int32), iv (6 : Int32), .unset, .unset] [(.int (2 : Int32))])) _
    refine XS.istoreN X2.here hx rfl (hb hby d14_8) rfl (l' := #[rv r0, iv (4 : Int32), iv (6 : Int32), iv (2 : Int32), .unset]) rfl ?_
    refine XS.iloadN X2.here hx rfl (hb hby d14_9) rfl ?_
    exact kt
  obtain ⟨T4, h4, k4, X4, e4, E4, A4, Ex4, st4⟩ := newPE X2 hx hZ (hw _ (List.mem_of_getElem? (i := 4) rfl)) hh2 (g := (mkF m 10 #[rv r0, iv (4 : Int32), iv (6 : Int32), iv (2 : Int32), .unset] [(.int (2 : Int32))])) rfl (hb hby d14_10) rfl (by decide) (cap := 2) (by decide) (by decide) (by decide) (by decide) (ad := "[B") rfl
  obtain ⟨b4, g4⟩ : ∃ z, z = h0.size := ⟨_, rfl⟩
  rw [← g4] at A4 Ex4 st4
  have g_b4 : n0 ≤ b4 := Nat.le_trans (Nat.le_trans Z0 (Keep.refl h0 []).1) (Nat.le_of_eq g4.symm)
  have sz_b4 : h0.size ≤ b4 := Nat.le_trans (Keep.refl h0 []).1 (Nat.le_of_eq g4.symm)
  have V_b4 : Arv Z h4 b4 k4 .byte (2 : Int32) [(.int (0 : Int32)), (.int (0 : Int32))] (.int (0 : Int32)) := (Arv.new A4 (by decide)).pad (pad_rep [] (.int (0 : Int32)) 2)
  have K4 : Keep h0 h4 [] := (Keep.refl h0 []).ext E4
  obtain ⟨cl5, Ar5, -, S5, M5, -, -⟩ := id (V_r0.ext E4)
  have pre6 : ∀ t, Steps p.tables e below (T4.setTop (mkF m 24 #[rv r0, iv (4 : Int32), iv (6 : Int32), iv (2 : Int32), rv b4] [(.int (2 : Int32)), (.int (4 : Int32)), (.int (0 : Int32)), (.ref b4), (.int (4 : Int32)), (.ref r0)])) t → Steps p.tables e below (s₁.setTop (entryFrame m #[(.ref r0), (.int (4 : Int32)), (.int (6 : Int32))] 5)) t := by
    intro t kt
    refine pre3 _ ?_
    show Steps p.tables e below (T2.setTop (mkF m 10 #[rv r0, iv (4 : Int32), iv (6 : Int32), iv (2 : Int32), .unset] [(.int (2 : Int32))])) _
    refine st4 _ ?_
    show Steps p.tables e below (T4.setTop (mkF m 12 #[rv r0, iv (4 : Int32), iv (6 : Int32), iv (2 : Int32), .unset] [(.ref b4)])) _
    refine XS.astore X4.here hx rfl (hb hby d14_12) rfl rfl (l' := #[rv r0, iv (4 : Int32), iv (6 : Int32), iv (2 : Int32), rv b4]) rfl ?_
    refine XS.aloadN X4.here hx rfl (hb hby d14_14) rfl rfl ?_
    refine XS.iloadN X4.here hx rfl (hb hby d14_15) rfl ?_
    refine XS.aload X4.here hx rfl (hb hby d14_16) rfl rfl ?_
    refine XS.iconst X4.here hx rfl (hb hby d14_18) ?_
    refine XS.aloadN X4.here hx rfl (hb hby d14_19) rfl rfl ?_
    refine X4.arraylength hx (by rw [e4]; exact Ar5.1) (State.isArrayOf_alike hZ.alike Ar5.2.1) (g := (mkF m 20 #[rv r0, iv (4 : Int32), iv (6 : Int32), iv (2 : Int32), rv b4] [(.ref r0), (.int (0 : Int32)), (.ref b4), (.int (4 : Int32)), (.ref r0)])) rfl rfl (hb hby d14_20) _ ?_
    rw [len_of S5 M5]
    show Steps p.tables e below (T4.setTop (mkF m 21 #[rv r0, iv (4 : Int32), iv (6 : Int32), iv (2 : Int32), rv b4] [(.int (8 : Int32)), (.int (0 : Int32)), (.ref b4), (.int (4 : Int32)), (.ref r0)])) _
    refine XS.iloadN X4.here hx rfl (hb hby d14_21) rfl ?_
    refine XS.isub X4.here hx rfl (hb hby d14_22) rfl ?_
    show Steps p.tables e below (T4.setTop (mkF m 23 #[rv r0, iv (4 : Int32), iv (6 : Int32), iv (2 : Int32), rv b4] [(.int ((8 : Int32) - (4 : Int32))), (.int (0 : Int32)), (.ref b4), (.int (4 : Int32)), (.ref r0)])) _
    rw [show ((8 : Int32) - (4 : Int32)) = (4 : Int32) from (by decide)]
    show Steps p.tables e below (T4.setTop (mkF m 23 #[rv r0, iv (4 : Int32), iv (6 : Int32), iv (2 : Int32), rv b4] [(.int (4 : Int32)), (.int (0 : Int32)), (.ref b4), (.int (4 : Int32)), (.ref r0)])) _
    refine XS.iloadN X4.here hx rfl (hb hby d14_23) rfl ?_
    exact kt
  obtain ⟨_, _, ⟨T7, L7, k7, n7⟩, -, X7, ⟨Lc7, hQ7, l7, y7, z7⟩, st7⟩ := Jvm.LawKit.callS X4 hx (y := (⟨"java/lang/Math", "min", "(II)I"⟩ : MethodName)) hown (mvT hZ (hw _ (List.mem_of_getElem? (i := 77) rfl))) (mvT hZ (hw _ (List.mem_of_getElem? (i := 78) rfl))) (mvT hZ (hw _ (List.mem_of_getElem? (i := 79) rfl))) (mvT hZ (hw _ (List.mem_of_getElem? (i := 80) rfl))) (by decide) (backOf (W := 4) (rm16i1 l Z a0 hw [] (4 : Int32) (2 : Int32) h4 n0 (Nat.le_trans Z0 K4.1) (by decide)) hZ (hw _ (List.mem_of_getElem? (i := 80) rfl)) (hw _ (List.mem_of_getElem? (i := 79) rfl)) (by decide) (by decide)) (g := (mkF m 24 #[rv r0, iv (4 : Int32), iv (6 : Int32), iv (2 : Int32), rv b4] [(.int (2 : Int32)), (.int (4 : Int32)), (.int (0 : Int32)), (.ref b4), (.int (4 : Int32)), (.ref r0)])) rfl (by rw [hml]; rfl) (argsL := [(.int (4 : Int32)), (.int (2 : Int32))]) (rest := [(.int (0 : Int32)), (.ref b4), (.int (4 : Int32)), (.ref r0)]) (lenOf pd8 rfl) rfl (by show 2 * 0 + _ ≤ _; exact Nat.le_of_eq rfl) (hb hby d14_24) (fun _ _ => ⟨rfl, e4, (by decide : 1 + 0 ≤ _), (by decide : 2 + 0 ≤ _)⟩)
  dsimp only [Pt.U, Pt.locs, Pt.cells, Pt.slots] at X7 l7 y7 z7 st7 hQ7
  subst l7 y7 z7
  obtain ⟨rfl, N7q, hh7⟩ := hQ7
  have N7 := Fr.app N2 N7q
  have pre8 : ∀ t, Steps p.tables e below (T7.setTop (mkF m 27 #[rv r0, iv (4 : Int32), iv (6 : Int32), iv (2 : Int32), rv b4] [(.int (2 : Int32)), (.int (0 : Int32)), (.ref b4), (.int (4 : Int32)), (.ref r0)])) t → Steps p.tables e below (s₁.setTop (entryFrame m #[(.ref r0), (.int (4 : Int32)), (.int (6 : Int32))] 5)) t := by
    intro t kt
    refine pre6 _ ?_
    show Steps p.tables e below (T4.setTop (mkF m 24 #[rv r0, iv (4 : Int32), iv (6 : Int32), iv (2 : Int32), rv b4] [(.int (2 : Int32)), (.int (4 : Int32)), (.int (0 : Int32)), (.ref b4), (.int (4 : Int32)), (.ref r0)])) _
    refine st7 _ ?_
    exact kt
  obtain ⟨T9, h9, L9, X9, e9, N9, Kc9, Vc9, st9⟩ := cpA X7 hx hZ hown (hw _ (List.mem_of_getElem? (i := 81) rfl)) (hw _ (List.mem_of_getElem? (i := 84) rfl)) (hw _ (List.mem_of_getElem? (i := 82) rfl)) (hw _ (List.mem_of_getElem? (i := 83) rfl)) hh7 (V_r0.ext E4) V_b4 (Or.inl ⟨rfl, rfl⟩) (by decide) (by decide) (by decide) (by decide) (by decide) rfl (by decide) N7 g_b4 (g := (mkF m 27 #[rv r0, iv (4 : Int32), iv (6 : Int32), iv (2 : Int32), rv b4] [(.int (2 : Int32)), (.int (0 : Int32)), (.ref b4), (.int (4 : Int32)), (.ref r0)])) rfl (by rw [hml]; rfl) rfl (hb hby d14_27) (by decide) (W := 0) (by show 2 * 0 + _ ≤ _; exact Nat.le_of_eq rfl) (by decide)
  have K9 : Keep h0 h9 [] := K4.trans Kc9 (allS (Or.inr sz_b4) all0)
  have V9 : Arv Z h9 b4 k4 .byte (2 : Int32) [(.int dd4), (.int dd5)] (.int (0 : Int32)) := Vc9
  have pre10 : ∀ t, Steps p.tables e below (T9.setTop (mkF m 32 #[rv r0, iv (4 : Int32), iv (6 : Int32), iv (2 : Int32), rv b4] [(.ref b4)])) t → Steps p.tables e below (s₁.setTop (entryFrame m #[(.ref r0), (.int (4 : Int32)), (.int (6 : Int32))] 5)) t := by
    intro t kt
    refine pre8 _ ?_
    show Steps p.tables e below (T7.setTop (mkF m 27 #[rv r0, iv (4 : Int32), iv (6 : Int32), iv (2 : Int32), rv b4] [(.int (2 : Int32)), (.int (0 : Int32)), (.ref b4), (.int (4 : Int32)), (.ref r0)])) _
    refine st9 _ ?_
    show Steps p.tables e below (T9.setTop (mkF m 30 #[rv r0, iv (4 : Int32), iv (6 : Int32), iv (2 : Int32), rv b4] [])) _
    refine XS.aload X9.here hx rfl (hb hby d14_30) rfl rfl ?_
    exact kt
  obtain ⟨fs, hr, hrun, hended, hW, hsame⟩ := X9.leave (v := some (.ref b4)) (fun h => by rw [Bd.returns] at h; cases h)
  refine ⟨_, _, pre10 _ ?_, hrun, hended, _, _, rfl, ?_, ⟨_, rfl⟩, hW, hsame.mono (by decide) (by decide)⟩
  · show Steps p.tables e below (T9.setTop (mkF m 32 #[rv r0, iv (4 : Int32), iv (6 : Int32), iv (2 : Int32), rv b4] [(.ref b4)])) _
    jvm_step X9.here [X9.here.top, hx, (hb hby d14_32), X9.method', Bd.returns, Value.isRef, FieldType.isReference]
    first | (intro acts; rw [hr _ acts rfl rfl rfl]) | rw [hr _ _ rfl rfl rfl]
    exact Steps.refl _
  · show Q14i4_6 Z r0 kc dd0 dd1 dd2 dd3 dd4 dd5 dd6 dd7 h0 n0 _ T9.heap _
    rw [e9]
    exact ⟨b4, rfl, N9, K9⟩

theorem ef_13i4_6 (m : MethodId) (x0 : Addr) (x1 : Int32) (x2 : Int32) : entryFrame m #[(.ref x0), (.int x1), (.int x2)] 3 = mkF m 0 #[.val (.ref x0), .val (.int x1), .val (.int x2)] [] := by first | (simp [entryFrame, mkF, argsToLocals, Value.category]; done) | rfl
def Q13i4_6 (Z : State) (r0 : Addr) (kc : ClassId) (dd0 : Int32) (dd1 : Int32) (dd2 : Int32) (dd3 : Int32) (dd4 : Int32) (dd5 : Int32) (dd6 : Int32) (dd7 : Int32) (h0 : Heap) (n0 : Nat) (v : Option Value) (h : Heap) (L : List Loc) : Prop := ∃ y, v = some (.ref y) ∧ Fr n0 L ∧ Keep h0 h []
set_option maxRecDepth 65536 in
set_option maxHeartbeats 40000000 in
theorem rm13i4_6 (l : Launch) (Z : State) (a0 : Array Value) (hw : ∀ d ∈ tables_1, d.before a0 Z = true) (ws : List Jvm.Cond) (r0 : Addr) (kc : ClassId) (dd0 : Int32) (dd1 : Int32) (dd2 : Int32) (dd3 : Int32) (dd4 : Int32) (dd5 : Int32) (dd6 : Int32) (dd7 : Int32) (h0 : Heap) (n0 : Nat) (Z0 : n0 ≤ h0.size) (V_r0 : Arv Z h0 r0 kc .byte (8 : Int32) [(.int dd0), (.int dd1), (.int dd2), (.int dd3), (.int dd4), (.int dd5), (.int dd6), (.int dd7)] (.int (0 : Int32))) :
    MetFree l (⟨"java/util/Arrays", "copyOfRange", "([BII)[B"⟩ : MethodName) (head1 (Jvm.Cond.code (⟨"java/util/Arrays", "copyOfRange", "([BII)[B"⟩ : MethodName) jdk_65_method_132_code 3 (some (.array .byte)) :: ws) ({ frames := 2, cells := 1, slots := 2, locals := 34 } : Room)) (fun a U => a = #[(.ref r0), (.int (4 : Int32)), (.int (6 : Int32))] ∧ Z.Warmed39 U.vm ∧ U.heap = h0) (fun _ _ _ _ _ => True) (fun _ U o U' => ∃ v L, o = .returned v ∧ Q13i4_6 Z r0 kc dd0 dd1 dd2 dd3 dd4 dd5 dd6 dd7 h0 n0 v U'.heap L ∧ FrameEnd U o U' L ({ frames := 2, cells := 1, slots := 2, locals := 34 } : Room).cells ({ frames := 2, cells := 1, slots := 2, locals := 34 } : Room).slots) := by
  refine MetFree.of_bodySF (plainFor_of_name pn6) hisR ?_
  intro p e s m args below meth c s₁ Bd hml0 hP hK
  obtain ⟨rfl, hZ, hh⟩ := hP
  have hx := Bd.exec
  have hby := Bd.bytes
  have hml : c.maxLocals = 3 := hml0
  have hown : s.vm.findClass "java/util/Arrays" = some m.cls := findClass_of_methodNamed Bd.named
  have hnm := (name_of_methodNamed Bd.named Bd.method).1
  have X0 : Stand p l e ({ frames := 2, cells := 1, slots := 2, locals := 34 } : Room) s m #[(.ref r0), (.int (4 : Int32)), (.int (6 : Int32))] below meth c s₁ [] 0 0 := Stand.of_body Bd
  have e0 : s₁.heap = h0 := by rw [← hh, Bd.state]; rfl
  have N0 := Fr.nil n0
  have pre0 : ∀ t, Steps p.tables e below (s₁.setTop (mkF m 0 #[rv r0, iv (4 : Int32), iv (6 : Int32)] [])) t → Steps p.tables e below (s₁.setTop (entryFrame m #[(.ref r0), (.int (4 : Int32)), (.int (6 : Int32))] 3)) t := fun t k => castTop (ef_13i4_6 m r0 (4 : Int32) (6 : Int32)) k
  have pre1 : ∀ t, Steps p.tables e below (s₁.setTop (mkF m 13 #[rv r0, iv (4 : Int32), iv (6 : Int32)] [(.int (6 : Int32)), (.int (4 : Int32)), (.ref r0)])) t → Steps p.tables e below (s₁.setTop (entryFrame m #[(.ref r0), (.int (4 : Int32)), (.int (6 : Int32))] 3)) t := by
    intro t kt
    refine pre0 _ ?_
    show Steps p.tables e below (s₁.setTop (mkF m 0 #[rv r0, iv (4 : Int32), iv (6 : Int32)] [])) _
    refine XS.iloadN X0.here hx rfl (hb hby d13_0) rfl ?_
    refine XS.ifYes X0.here hx rfl (pc0 := 1) (pc' := 10) rfl (hb hby d13_1) rfl ((if0 _ _).trans (feq (by decide)).2) (by decide) (by decide) ?_
    refine XS.aloadN X0.here hx rfl (hb hby d13_10) rfl rfl ?_
    refine XS.iloadN X0.here hx rfl (hb hby d13_11) rfl ?_
    refine XS.iloadN X0.here hx rfl (hb hby d13_12) rfl ?_
    exact kt
  obtain ⟨_, _, ⟨T2, L2, k2, n2⟩, -, X2, ⟨Lc2, hQ2, l2, y2, z2⟩, st2⟩ := Jvm.LawKit.callS X0 hx (y := (⟨"java/util/Arrays", "copyOfRangeByte", "([BII)[B"⟩ : MethodName)) hown (mvT hZ (hw _ (List.mem_of_getElem? (i := 71) rfl))) (mvT hZ (hw _ (List.mem_of_getElem? (i := 72) rfl))) (mvT hZ (hw _ (List.mem_of_getElem? (i := 69) rfl))) (mvT hZ (hw _ (List.mem_of_getElem? (i := 73) rfl))) (by decide) (backOf (W := 0) (rm14i4_6 l Z a0 hw [] r0 kc dd0 dd1 dd2 dd3 dd4 dd5 dd6 dd7 h0 n0 (Nat.le_trans Z0 (Keep.refl h0 []).1) V_r0) hZ (hw _ (List.mem_of_getElem? (i := 73) rfl)) (hw _ (List.mem_of_getElem? (i := 69) rfl)) (by decide) (by decide)) (g := (mkF m 13 #[rv r0, iv (4 : Int32), iv (6 : Int32)] [(.int (6 : Int32)), (.int (4 : Int32)), (.ref r0)])) rfl (by rw [hml]; rfl) (argsL := [(.ref r0), (.int (4 : Int32)), (.int (6 : Int32))]) (rest := []) (lenOf pd9 rfl) rfl (by show 2 * 0 + _ ≤ _; exact Nat.le_of_eq rfl) (hb hby d13_13) (fun _ _ => ⟨rfl, e0, (by decide : 0 + 1 ≤ _), (by decide : 0 + 2 ≤ _)⟩)
  dsimp only [Pt.U, Pt.locs, Pt.cells, Pt.slots] at X2 l2 y2 z2 st2 hQ2
  subst l2 y2 z2
  obtain ⟨y2, rfl, N2q, Kc2⟩ := hQ2
  have N2 := Fr.app N0 N2q
  have K2 : Keep h0 T2.heap [] := (Keep.refl h0 []).trans Kc2 all0
  have pre3 : ∀ t, Steps p.tables e below (T2.setTop (mkF m 16 #[rv r0, iv (4 : Int32), iv (6 : Int32)] [(.ref y2)])) t → Steps p.tables e below (s₁.setTop (entryFrame m #[(.ref r0), (.int (4 : Int32)), (.int (6 : Int32))] 3)) t := by
    intro t kt
    refine pre1 _ ?_
    show Steps p.tables e below (s₁.setTop (mkF m 13 #[rv r0, iv (4 : Int32), iv (6 : Int32)] [(.int (6 : Int32)), (.int (4 : Int32)), (.ref r0)])) _
    refine st2 _ ?_
    exact kt
  obtain ⟨fs, hr, hrun, hended, hW, hsame⟩ := X2.leave (v := some (.ref y2)) (fun h => by rw [Bd.returns] at h; cases h)
  refine ⟨_, _, pre3 _ ?_, hrun, hended, _, _, rfl, ?_, ⟨_, rfl⟩, hW, hsame.mono (by decide) (by decide)⟩
  · show Steps p.tables e below (T2.setTop (mkF m 16 #[rv r0, iv (4 : Int32), iv (6 : Int32)] [(.ref y2)])) _
    jvm_step X2.here [X2.here.top, hx, (hb hby d13_16), X2.method', Bd.returns, Value.isRef, FieldType.isReference]
    first | (intro acts; rw [hr _ acts rfl rfl rfl]) | rw [hr _ _ rfl rfl rfl]
    exact Steps.refl _
  · show Q13i4_6 Z r0 kc dd0 dd1 dd2 dd3 dd4 dd5 dd6 dd7 h0 n0 _ T2.heap _
    exact ⟨y2, rfl, N2, K2⟩

theorem ef_14i6_8 (m : MethodId) (x0 : Addr) (x1 : Int32) (x2 : Int32) : entryFrame m #[(.ref x0), (.int x1), (.int x2)] 5 = mkF m 0 #[.val (.ref x0), .val (.int x1), .val (.int x2), .unset, .unset] [] := by first | (simp [entryFrame, mkF, argsToLocals, Value.category]; done) | rfl
def Q14i6_8 (Z : State) (r0 : Addr) (kc : ClassId) (dd0 : Int32) (dd1 : Int32) (dd2 : Int32) (dd3 : Int32) (dd4 : Int32) (dd5 : Int32) (dd6 : Int32) (dd7 : Int32) (h0 : Heap) (n0 : Nat) (v : Option Value) (h : Heap) (L : List Loc) : Prop := ∃ y, v = some (.ref y) ∧ Fr n0 L ∧ Keep h0 h []
set_option maxRecDepth 65536 in
set_option maxHeartbeats 40000000 in
theorem rm14i6_8 (l : Launch) (Z : State) (a0 : Array Value) (hw : ∀ d ∈ tables_1, d.before a0 Z = true) (ws : List Jvm.Cond) (r0 : Addr) (kc : ClassId) (dd0 : Int32) (dd1 : Int32) (dd2 : Int32) (dd3 : Int32) (dd4 : Int32) (dd5 : Int32) (dd6 : Int32) (dd7 : Int32) (h0 : Heap) (n0 : Nat) (Z0 : n0 ≤ h0.size) (V_r0 : Arv Z h0 r0 kc .byte (8 : Int32) [(.int dd0), (.int dd1), (.int dd2), (.int dd3), (.int dd4), (.int dd5), (.int dd6), (.int dd7)] (.int (0 : Int32))) :
    MetFree l (⟨"java/util/Arrays", "copyOfRangeByte", "([BII)[B"⟩ : MethodName) (head1 (Jvm.Cond.code (⟨"java/util/Arrays", "copyOfRangeByte", "([BII)[B"⟩ : MethodName) jdk_65_method_133_code 5 (some (.array .byte)) :: ws) ({ frames := 1, cells := 1, slots := 2, locals := 18 } : Room)) (fun a U => a = #[(.ref r0), (.int (6 : Int32)), (.int (8 : Int32))] ∧ Z.Warmed39 U.vm ∧ U.heap = h0) (fun _ _ _ _ _ => True) (fun _ U o U' => ∃ v L, o = .returned v ∧ Q14i6_8 Z r0 kc dd0 dd1 dd2 dd3 dd4 dd5 dd6 dd7 h0 n0 v U'.heap L ∧ FrameEnd U o U' L ({ frames := 1, cells := 1, slots := 2, locals := 18 } : Room).cells ({ frames := 1, cells := 1, slots := 2, locals := 18 } : Room).slots) := by
  refine MetFree.of_bodySF (plainFor_of_name pn6) hisR ?_
  intro p e s m args below meth c s₁ Bd hml0 hP hK
  obtain ⟨rfl, hZ, hh⟩ := hP
  have hx := Bd.exec
  have hby := Bd.bytes
  have hml : c.maxLocals = 5 := hml0
  have hown : s.vm.findClass "java/util/Arrays" = some m.cls := findClass_of_methodNamed Bd.named
  have hnm := (name_of_methodNamed Bd.named Bd.method).1
  have X0 : Stand p l e ({ frames := 1, cells := 1, slots := 2, locals := 18 } : Room) s m #[(.ref r0), (.int (6 : Int32)), (.int (8 : Int32))] below meth c s₁ [] 0 0 := Stand.of_body Bd
  have e0 : s₁.heap = h0 := by rw [← hh, Bd.state]; rfl
  have N0 := Fr.nil n0
  have pre0 : ∀ t, Steps p.tables e below (s₁.setTop (mkF m 0 #[rv r0, iv (6 : Int32), iv (8 : Int32), .unset, .unset] [])) t → Steps p.tables e below (s₁.setTop (entryFrame m #[(.ref r0), (.int (6 : Int32)), (.int (8 : Int32))] 5)) t := fun t k => castTop (ef_14i6_8 m r0 (6 : Int32) (8 : Int32)) k
  have pre1 : ∀ t, Steps p.tables e below (s₁.setTop (mkF m 2 #[rv r0, iv (6 : Int32), iv (8 : Int32), .unset, .unset] [(.int (8 : Int32)), (.int (6 : Int32))])) t → Steps p.tables e below (s₁.setTop (entryFrame m #[(.ref r0), (.int (6 : Int32)), (.int (8 : Int32))] 5)) t := by
    intro t kt
    refine pre0 _ ?_
    show Steps p.tables e below (s₁.setTop (mkF m 0 #[rv r0, iv (6 : Int32), iv (8 : Int32), .unset, .unset] [])) _
    refine XS.iloadN X0.here hx rfl (hb hby d14_0) rfl ?_
    refine XS.iloadN X0.here hx rfl (hb hby d14_1) rfl ?_
    exact kt
  obtain ⟨_, _, ⟨T2, L2, k2, n2⟩, -, X2, ⟨Lc2, hQ2, l2, y2, z2⟩, st2⟩ := Jvm.LawKit.callS X0 hx (y := (⟨"java/util/Arrays", "checkLength", "(II)V"⟩ : MethodName)) hown (mvT hZ (hw _ (List.mem_of_getElem? (i := 74) rfl))) (mvT hZ (hw _ (List.mem_of_getElem? (i := 75) rfl))) (mvT hZ (hw _ (List.mem_of_getElem? (i := 69) rfl))) (mvT hZ (hw _ (List.mem_of_getElem? (i := 76) rfl))) (by decide) (backOf (W := 0) (rm15 l Z a0 hw [] (6 : Int32) (8 : Int32) h0 n0 (Nat.le_trans Z0 (Keep.refl h0 []).1) (by decide)) hZ (hw _ (List.mem_of_getElem? (i := 76) rfl)) (hw _ (List.mem_of_getElem? (i := 69) rfl)) (by decide) (by decide)) (g := (mkF m 2 #[rv r0, iv (6 : Int32), iv (8 : Int32), .unset, .unset] [(.int (8 : Int32)), (.int (6 : Int32))])) rfl (by rw [hml]; rfl) (argsL := [(.int (6 : Int32)), (.int (8 : Int32))]) (rest := []) (lenOf pd7 rfl) rfl (by show 2 * 0 + _ ≤ _; exact Nat.le_of_eq rfl) (hb hby d14_2) (fun _ _ => ⟨rfl, e0, (by decide : 0 + 0 ≤ _), (by decide : 0 + 0 ≤ _)⟩)
  dsimp only [Pt.U, Pt.locs, Pt.cells, Pt.slots] at X2 l2 y2 z2 st2 hQ2
  subst l2 y2 z2
  obtain ⟨rfl, N2q, hh2⟩ := hQ2
  have N2 := Fr.app N0 N2q
  have pre3 : ∀ t, Steps p.tables e below (T2.setTop (mkF m 10 #[rv r0, iv (6 : Int32), iv (8 : Int32), iv (2 : Int32), .unset] [(.int (2 : Int32))])) t → Steps p.tables e below (s₁.setTop (entryFrame m #[(.ref r0), (.int (6 : Int32)), (.int (8 : Int32))] 5)) t := by
    intro t kt
    refine pre1 _ ?_
    show Steps p.tables e below (s₁.setTop (mkF m 2 #[rv r0, iv (6 : Int32), iv (8 : Int32), .unset, .unset] [(.int (8 : Int32)), (.int (6 : Int32))])) _
    refine st2 _ ?_
    show Steps p.tables e below (T2.setTop (mkF m 5 #[rv r0, iv (6 : Int32), iv (8 : Int32), .unset, .unset] [])) _
    refine XS.iloadN X2.here hx rfl (hb hby d14_5) rfl ?_
    refine XS.iloadN X2.here hx rfl (hb hby d14_6) rfl ?_
    refine XS.isub X2.here hx rfl (hb hby d14_7) rfl ?_
    show Steps p.tables e below (T2.setTop (mkF m 8 #[rv r0, iv (6 : Int32), iv (8 : Int32), .unset, .unset] [(.int ((8 : Int32) - (6 : Int32)))])) _
    rw [show ((8 : Int32) - (6 : Int32)) = (2 : Int32) from (by decide)]
    show Steps p.tables e below (T2.setTop (mkF m 8 #[rv r0, iv (6 : Int32), iv (8 : Int32), .unset, .unset] [(.int (2 : Int32))])) _
    refine XS.istoreN X2.here hx rfl (hb hby d14_8) rfl (l' := #[rv r0, iv (6 : Int32), iv (8 : Int32), iv (2 : Int32), .unset]) rfl ?_
    refine XS.iloadN X2.here hx rfl (hb hby d14_9) rfl ?_
    exact kt
  obtain ⟨T4, h4, k4, X4, e4, E4, A4, Ex4, st4⟩ := newPE X2 hx hZ (hw _ (List.mem_of_getElem? (i := 4) rfl)) hh2 (g := (mkF m 10 #[rv r0, iv (6 : Int32), iv (8 : Int32), iv (2 : Int32), .unset] [(.int (2 : Int32))])) rfl (hb hby d14_10) rfl (by decide) (cap := 2) (by decide) (by decide) (by decide) (by decide) (ad := "[B") rfl
  obtain ⟨b4, g4⟩ : ∃ z, z = h0.size := ⟨_, rfl⟩
  rw [← g4] at A4 Ex4 st4
  have g_b4 : n0 ≤ b4 := Nat.le_trans (Nat.le_trans Z0 (Keep.refl h0 []).1) (Nat.le_of_eq g4.symm)
  have sz_b4 : h0.size ≤ b4 := Nat.le_trans (Keep.refl h0 []).1 (Nat.le_of_eq g4.symm)
  have V_b4 : Arv Z h4 b4 k4 .byte (2 : Int32) [(.int (0 : Int32)), (.int (0 : Int32))] (.int (0 : Int32)) := (Arv.new A4 (by decide)).pad (pad_rep [] (.int (0 : Int32)) 2)
  have K4 : Keep h0 h4 [] := (Keep.refl h0 []).ext E4
  obtain ⟨cl5, Ar5, -, S5, M5, -, -⟩ := id (V_r0.ext E4)
  have pre6 : ∀ t, Steps p.tables e below (T4.setTop (mkF m 24 #[rv r0, iv (6 : Int32), iv (8 : Int32), iv (2 : Int32), rv b4] [(.int (2 : Int32)), (.int (2 : Int32)), (.int (0 : Int32)), (.ref b4), (.int (6 : Int32)), (.ref r0)])) t → Steps p.tables e below (s₁.setTop (entryFrame m #[(.ref r0), (.int (6 : Int32)), (.int (8 : Int32))] 5)) t := by
    intro t kt
    refine pre3 _ ?_
    show Steps p.tables e below (T2.setTop (mkF m 10 #[rv r0, iv (6 : Int32), iv (8 : Int32), iv (2 : Int32), .unset] [(.int (2 : Int32))])) _
    refine st4 _ ?_
    show Steps p.tables e below (T4.setTop (mkF m 12 #[rv r0, iv (6 : Int32), iv (8 : Int32), iv (2 : Int32), .unset] [(.ref b4)])) _
    refine XS.astore X4.here hx rfl (hb hby d14_12) rfl rfl (l' := #[rv r0, iv (6 : Int32), iv (8 : Int32), iv (2 : Int32), rv b4]) rfl ?_
    refine XS.aloadN X4.here hx rfl (hb hby d14_14) rfl rfl ?_
    refine XS.iloadN X4.here hx rfl (hb hby d14_15) rfl ?_
    refine XS.aload X4.here hx rfl (hb hby d14_16) rfl rfl ?_
    refine XS.iconst X4.here hx rfl (hb hby d14_18) ?_
    refine XS.aloadN X4.here hx rfl (hb hby d14_19) rfl rfl ?_
    refine X4.arraylength hx (by rw [e4]; exact Ar5.1) (State.isArrayOf_alike hZ.alike Ar5.2.1) (g := (mkF m 20 #[rv r0, iv (6 : Int32), iv (8 : Int32), iv (2 : Int32), rv b4] [(.ref r0), (.int (0 : Int32)), (.ref b4), (.int (6 : Int32)), (.ref r0)])) rfl rfl (hb hby d14_20) _ ?_
    rw [len_of S5 M5]
    show Steps p.tables e below (T4.setTop (mkF m 21 #[rv r0, iv (6 : Int32), iv (8 : Int32), iv (2 : Int32), rv b4] [(.int (8 : Int32)), (.int (0 : Int32)), (.ref b4), (.int (6 : Int32)), (.ref r0)])) _
    refine XS.iloadN X4.here hx rfl (hb hby d14_21) rfl ?_
    refine XS.isub X4.here hx rfl (hb hby d14_22) rfl ?_
    show Steps p.tables e below (T4.setTop (mkF m 23 #[rv r0, iv (6 : Int32), iv (8 : Int32), iv (2 : Int32), rv b4] [(.int ((8 : Int32) - (6 : Int32))), (.int (0 : Int32)), (.ref b4), (.int (6 : Int32)), (.ref r0)])) _
    rw [show ((8 : Int32) - (6 : Int32)) = (2 : Int32) from (by decide)]
    show Steps p.tables e below (T4.setTop (mkF m 23 #[rv r0, iv (6 : Int32), iv (8 : Int32), iv (2 : Int32), rv b4] [(.int (2 : Int32)), (.int (0 : Int32)), (.ref b4), (.int (6 : Int32)), (.ref r0)])) _
    refine XS.iloadN X4.here hx rfl (hb hby d14_23) rfl ?_
    exact kt
  obtain ⟨_, _, ⟨T7, L7, k7, n7⟩, -, X7, ⟨Lc7, hQ7, l7, y7, z7⟩, st7⟩ := Jvm.LawKit.callS X4 hx (y := (⟨"java/lang/Math", "min", "(II)I"⟩ : MethodName)) hown (mvT hZ (hw _ (List.mem_of_getElem? (i := 77) rfl))) (mvT hZ (hw _ (List.mem_of_getElem? (i := 78) rfl))) (mvT hZ (hw _ (List.mem_of_getElem? (i := 79) rfl))) (mvT hZ (hw _ (List.mem_of_getElem? (i := 80) rfl))) (by decide) (backOf (W := 4) (rm16i0 l Z a0 hw [] (2 : Int32) (2 : Int32) h4 n0 (Nat.le_trans Z0 K4.1) (by decide)) hZ (hw _ (List.mem_of_getElem? (i := 80) rfl)) (hw _ (List.mem_of_getElem? (i := 79) rfl)) (by decide) (by decide)) (g := (mkF m 24 #[rv r0, iv (6 : Int32), iv (8 : Int32), iv (2 : Int32), rv b4] [(.int (2 : Int32)), (.int (2 : Int32)), (.int (0 : Int32)), (.ref b4), (.int (6 : Int32)), (.ref r0)])) rfl (by rw [hml]; rfl) (argsL := [(.int (2 : Int32)), (.int (2 : Int32))]) (rest := [(.int (0 : Int32)), (.ref b4), (.int (6 : Int32)), (.ref r0)]) (lenOf pd8 rfl) rfl (by show 2 * 0 + _ ≤ _; exact Nat.le_of_eq rfl) (hb hby d14_24) (fun _ _ => ⟨rfl, e4, (by decide : 1 + 0 ≤ _), (by decide : 2 + 0 ≤ _)⟩)
  dsimp only [Pt.U, Pt.locs, Pt.cells, Pt.slots] at X7 l7 y7 z7 st7 hQ7
  subst l7 y7 z7
  obtain ⟨rfl, N7q, hh7⟩ := hQ7
  have N7 := Fr.app N2 N7q
  have pre8 : ∀ t, Steps p.tables e below (T7.setTop (mkF m 27 #[rv r0, iv (6 : Int32), iv (8 : Int32), iv (2 : Int32), rv b4] [(.int (2 : Int32)), (.int (0 : Int32)), (.ref b4), (.int (6 : Int32)), (.ref r0)])) t → Steps p.tables e below (s₁.setTop (entryFrame m #[(.ref r0), (.int (6 : Int32)), (.int (8 : Int32))] 5)) t := by
    intro t kt
    refine pre6 _ ?_
    show Steps p.tables e below (T4.setTop (mkF m 24 #[rv r0, iv (6 : Int32), iv (8 : Int32), iv (2 : Int32), rv b4] [(.int (2 : Int32)), (.int (2 : Int32)), (.int (0 : Int32)), (.ref b4), (.int (6 : Int32)), (.ref r0)])) _
    refine st7 _ ?_
    exact kt
  obtain ⟨T9, h9, L9, X9, e9, N9, Kc9, Vc9, st9⟩ := cpA X7 hx hZ hown (hw _ (List.mem_of_getElem? (i := 81) rfl)) (hw _ (List.mem_of_getElem? (i := 84) rfl)) (hw _ (List.mem_of_getElem? (i := 82) rfl)) (hw _ (List.mem_of_getElem? (i := 83) rfl)) hh7 (V_r0.ext E4) V_b4 (Or.inl ⟨rfl, rfl⟩) (by decide) (by decide) (by decide) (by decide) (by decide) rfl (by decide) N7 g_b4 (g := (mkF m 27 #[rv r0, iv (6 : Int32), iv (8 : Int32), iv (2 : Int32), rv b4] [(.int (2 : Int32)), (.int (0 : Int32)), (.ref b4), (.int (6 : Int32)), (.ref r0)])) rfl (by rw [hml]; rfl) rfl (hb hby d14_27) (by decide) (W := 0) (by show 2 * 0 + _ ≤ _; exact Nat.le_of_eq rfl) (by decide)
  have K9 : Keep h0 h9 [] := K4.trans Kc9 (allS (Or.inr sz_b4) all0)
  have V9 : Arv Z h9 b4 k4 .byte (2 : Int32) [(.int dd6), (.int dd7)] (.int (0 : Int32)) := Vc9
  have pre10 : ∀ t, Steps p.tables e below (T9.setTop (mkF m 32 #[rv r0, iv (6 : Int32), iv (8 : Int32), iv (2 : Int32), rv b4] [(.ref b4)])) t → Steps p.tables e below (s₁.setTop (entryFrame m #[(.ref r0), (.int (6 : Int32)), (.int (8 : Int32))] 5)) t := by
    intro t kt
    refine pre8 _ ?_
    show Steps p.tables e below (T7.setTop (mkF m 27 #[rv r0, iv (6 : Int32), iv (8 : Int32), iv (2 : Int32), rv b4] [(.int (2 : Int32)), (.int (0 : Int32)), (.ref b4), (.int (6 : Int32)), (.ref r0)])) _
    refine st9 _ ?_
    show Steps p.tables e below (T9.setTop (mkF m 30 #[rv r0, iv (6 : Int32), iv (8 : Int32), iv (2 : Int32), rv b4] [])) _
    refine XS.aload X9.here hx rfl (hb hby d14_30) rfl rfl ?_
    exact kt
  obtain ⟨fs, hr, hrun, hended, hW, hsame⟩ := X9.leave (v := some (.ref b4)) (fun h => by rw [Bd.returns] at h; cases h)
  refine ⟨_, _, pre10 _ ?_, hrun, hended, _, _, rfl, ?_, ⟨_, rfl⟩, hW, hsame.mono (by decide) (by decide)⟩
  · show Steps p.tables e below (T9.setTop (mkF m 32 #[rv r0, iv (6 : Int32), iv (8 : Int32), iv (2 : Int32), rv b4] [(.ref b4)])) _
    jvm_step X9.here [X9.here.top, hx, (hb hby d14_32), X9.method', Bd.returns, Value.isRef, FieldType.isReference]
    first | (intro acts; rw [hr _ acts rfl rfl rfl]) | rw [hr _ _ rfl rfl rfl]
    exact Steps.refl _
  · show Q14i6_8 Z r0 kc dd0 dd1 dd2 dd3 dd4 dd5 dd6 dd7 h0 n0 _ T9.heap _
    rw [e9]
    exact ⟨b4, rfl, N9, K9⟩

theorem ef_13i6_8 (m : MethodId) (x0 : Addr) (x1 : Int32) (x2 : Int32) : entryFrame m #[(.ref x0), (.int x1), (.int x2)] 3 = mkF m 0 #[.val (.ref x0), .val (.int x1), .val (.int x2)] [] := by first | (simp [entryFrame, mkF, argsToLocals, Value.category]; done) | rfl
def Q13i6_8 (Z : State) (r0 : Addr) (kc : ClassId) (dd0 : Int32) (dd1 : Int32) (dd2 : Int32) (dd3 : Int32) (dd4 : Int32) (dd5 : Int32) (dd6 : Int32) (dd7 : Int32) (h0 : Heap) (n0 : Nat) (v : Option Value) (h : Heap) (L : List Loc) : Prop := ∃ y, v = some (.ref y) ∧ Fr n0 L ∧ Keep h0 h []
set_option maxRecDepth 65536 in
set_option maxHeartbeats 40000000 in
theorem rm13i6_8 (l : Launch) (Z : State) (a0 : Array Value) (hw : ∀ d ∈ tables_1, d.before a0 Z = true) (ws : List Jvm.Cond) (r0 : Addr) (kc : ClassId) (dd0 : Int32) (dd1 : Int32) (dd2 : Int32) (dd3 : Int32) (dd4 : Int32) (dd5 : Int32) (dd6 : Int32) (dd7 : Int32) (h0 : Heap) (n0 : Nat) (Z0 : n0 ≤ h0.size) (V_r0 : Arv Z h0 r0 kc .byte (8 : Int32) [(.int dd0), (.int dd1), (.int dd2), (.int dd3), (.int dd4), (.int dd5), (.int dd6), (.int dd7)] (.int (0 : Int32))) :
    MetFree l (⟨"java/util/Arrays", "copyOfRange", "([BII)[B"⟩ : MethodName) (head1 (Jvm.Cond.code (⟨"java/util/Arrays", "copyOfRange", "([BII)[B"⟩ : MethodName) jdk_65_method_132_code 3 (some (.array .byte)) :: ws) ({ frames := 2, cells := 1, slots := 2, locals := 34 } : Room)) (fun a U => a = #[(.ref r0), (.int (6 : Int32)), (.int (8 : Int32))] ∧ Z.Warmed39 U.vm ∧ U.heap = h0) (fun _ _ _ _ _ => True) (fun _ U o U' => ∃ v L, o = .returned v ∧ Q13i6_8 Z r0 kc dd0 dd1 dd2 dd3 dd4 dd5 dd6 dd7 h0 n0 v U'.heap L ∧ FrameEnd U o U' L ({ frames := 2, cells := 1, slots := 2, locals := 34 } : Room).cells ({ frames := 2, cells := 1, slots := 2, locals := 34 } : Room).slots) := by
  refine MetFree.of_bodySF (plainFor_of_name pn6) hisR ?_
  intro p e s m args below meth c s₁ Bd hml0 hP hK
  obtain ⟨rfl, hZ, hh⟩ := hP
  have hx := Bd.exec
  have hby := Bd.bytes
  have hml : c.maxLocals = 3 := hml0
  have hown : s.vm.findClass "java/util/Arrays" = some m.cls := findClass_of_methodNamed Bd.named
  have hnm := (name_of_methodNamed Bd.named Bd.method).1
  have X0 : Stand p l e ({ frames := 2, cells := 1, slots := 2, locals := 34 } : Room) s m #[(.ref r0), (.int (6 : Int32)), (.int (8 : Int32))] below meth c s₁ [] 0 0 := Stand.of_body Bd
  have e0 : s₁.heap = h0 := by rw [← hh, Bd.state]; rfl
  have N0 := Fr.nil n0
  have pre0 : ∀ t, Steps p.tables e below (s₁.setTop (mkF m 0 #[rv r0, iv (6 : Int32), iv (8 : Int32)] [])) t → Steps p.tables e below (s₁.setTop (entryFrame m #[(.ref r0), (.int (6 : Int32)), (.int (8 : Int32))] 3)) t := fun t k => castTop (ef_13i6_8 m r0 (6 : Int32) (8 : Int32)) k
  have pre1 : ∀ t, Steps p.tables e below (s₁.setTop (mkF m 13 #[rv r0, iv (6 : Int32), iv (8 : Int32)] [(.int (8 : Int32)), (.int (6 : Int32)), (.ref r0)])) t → Steps p.tables e below (s₁.setTop (entryFrame m #[(.ref r0), (.int (6 : Int32)), (.int (8 : Int32))] 3)) t := by
    intro t kt
    refine pre0 _ ?_
    show Steps p.tables e below (s₁.setTop (mkF m 0 #[rv r0, iv (6 : Int32), iv (8 : Int32)] [])) _
    refine XS.iloadN X0.here hx rfl (hb hby d13_0) rfl ?_
    refine XS.ifYes X0.here hx rfl (pc0 := 1) (pc' := 10) rfl (hb hby d13_1) rfl ((if0 _ _).trans (feq (by decide)).2) (by decide) (by decide) ?_
    refine XS.aloadN X0.here hx rfl (hb hby d13_10) rfl rfl ?_
    refine XS.iloadN X0.here hx rfl (hb hby d13_11) rfl ?_
    refine XS.iloadN X0.here hx rfl (hb hby d13_12) rfl ?_
    exact kt
  obtain ⟨_, _, ⟨T2, L2, k2, n2⟩, -, X2, ⟨Lc2, hQ2, l2, y2, z2⟩, st2⟩ := Jvm.LawKit.callS X0 hx (y := (⟨"java/util/Arrays", "copyOfRangeByte", "([BII)[B"⟩ : MethodName)) hown (mvT hZ (hw _ (List.mem_of_getElem? (i := 71) rfl))) (mvT hZ (hw _ (List.mem_of_getElem? (i := 72) rfl))) (mvT hZ (hw _ (List.mem_of_getElem? (i := 69) rfl))) (mvT hZ (hw _ (List.mem_of_getElem? (i := 73) rfl))) (by decide) (backOf (W := 0) (rm14i6_8 l Z a0 hw [] r0 kc dd0 dd1 dd2 dd3 dd4 dd5 dd6 dd7 h0 n0 (Nat.le_trans Z0 (Keep.refl h0 []).1) V_r0) hZ (hw _ (List.mem_of_getElem? (i := 73) rfl)) (hw _ (List.mem_of_getElem? (i := 69) rfl)) (by decide) (by decide)) (g := (mkF m 13 #[rv r0, iv (6 : Int32), iv (8 : Int32)] [(.int (8 : Int32)), (.int (6 : Int32)), (.ref r0)])) rfl (by rw [hml]; rfl) (argsL := [(.ref r0), (.int (6 : Int32)), (.int (8 : Int32))]) (rest := []) (lenOf pd9 rfl) rfl (by show 2 * 0 + _ ≤ _; exact Nat.le_of_eq rfl) (hb hby d13_13) (fun _ _ => ⟨rfl, e0, (by decide : 0 + 1 ≤ _), (by decide : 0 + 2 ≤ _)⟩)
  dsimp only [Pt.U, Pt.locs, Pt.cells, Pt.slots] at X2 l2 y2 z2 st2 hQ2
  subst l2 y2 z2
  obtain ⟨y2, rfl, N2q, Kc2⟩ := hQ2
  have N2 := Fr.app N0 N2q
  have K2 : Keep h0 T2.heap [] := (Keep.refl h0 []).trans Kc2 all0
  have pre3 : ∀ t, Steps p.tables e below (T2.setTop (mkF m 16 #[rv r0, iv (6 : Int32), iv (8 : Int32)] [(.ref y2)])) t → Steps p.tables e below (s₁.setTop (entryFrame m #[(.ref r0), (.int (6 : Int32)), (.int (8 : Int32))] 3)) t := by
    intro t kt
    refine pre1 _ ?_
    show Steps p.tables e below (s₁.setTop (mkF m 13 #[rv r0, iv (6 : Int32), iv (8 : Int32)] [(.int (8 : Int32)), (.int (6 : Int32)), (.ref r0)])) _
    refine st2 _ ?_
    exact kt
  obtain ⟨fs, hr, hrun, hended, hW, hsame⟩ := X2.leave (v := some (.ref y2)) (fun h => by rw [Bd.returns] at h; cases h)
  refine ⟨_, _, pre3 _ ?_, hrun, hended, _, _, rfl, ?_, ⟨_, rfl⟩, hW, hsame.mono (by decide) (by decide)⟩
  · show Steps p.tables e below (T2.setTop (mkF m 16 #[rv r0, iv (6 : Int32), iv (8 : Int32)] [(.ref y2)])) _
    jvm_step X2.here [X2.here.top, hx, (hb hby d13_16), X2.method', Bd.returns, Value.isRef, FieldType.isReference]
    first | (intro acts; rw [hr _ acts rfl rfl rfl]) | rw [hr _ _ rfl rfl rfl]
    exact Steps.refl _
  · show Q13i6_8 Z r0 kc dd0 dd1 dd2 dd3 dd4 dd5 dd6 dd7 h0 n0 _ T2.heap _
    exact ⟨y2, rfl, N2, K2⟩
theorem d11_0 : decode prog_10_method_8_code 0 = .ok (.aload_n 0, 1) := by decide +kernel
theorem d11_1 : decode prog_10_method_8_code 1 = .ok (.getfield 16, 3) := by decide +kernel
theorem d11_4 : decode prog_10_method_8_code 4 = .ok (.istore_n 1, 1) := by decide +kernel
theorem d11_5 : decode prog_10_method_8_code 5 = .ok (.ldc 46, 2) := by decide +kernel
theorem d11_7 : decode prog_10_method_8_code 7 = .ok (.astore_n 2, 1) := by decide +kernel
theorem d11_8 : decode prog_10_method_8_code 8 = .ok (.aload_n 0, 1) := by decide +kernel
theorem d11_9 : decode prog_10_method_8_code 9 = .ok (.iload_n 1, 1) := by decide +kernel
theorem d11_10 : decode prog_10_method_8_code 10 = .ok (.aload_n 2, 1) := by decide +kernel
theorem d11_11 : decode prog_10_method_8_code 11 = .ok (.invokevirtual 48, 3) := by decide +kernel
theorem d11_14 : decode prog_10_method_8_code 14 = .ok (.istore_n 3, 1) := by decide +kernel
theorem d11_15 : decode prog_10_method_8_code 15 = .ok (.aload_n 0, 1) := by decide +kernel
theorem d11_16 : decode prog_10_method_8_code 16 = .ok (.iload_n 1, 1) := by decide +kernel
theorem d11_17 : decode prog_10_method_8_code 17 = .ok (.iload_n 3, 1) := by decide +kernel
theorem d11_18 : decode prog_10_method_8_code 18 = .ok (.aload_n 2, 1) := by decide +kernel
theorem pd10 : parseMethodDescriptor "(IILjava/lang/String;)I" = some ⟨[.int, .int, (.object "java/lang/String")], some .int⟩ := by decide +kernel
theorem d11_19 : decode prog_10_method_8_code 19 = .ok (.invokevirtual 51, 3) := by decide +kernel
theorem d11_22 : decode prog_10_method_8_code 22 = .ok (.pop, 1) := by decide +kernel
theorem d11_23 : decode prog_10_method_8_code 23 = .ok (.aload_n 0, 1) := by decide +kernel
theorem d11_24 : decode prog_10_method_8_code 24 = .ok (.iload_n 1, 1) := by decide +kernel
theorem d11_25 : decode prog_10_method_8_code 25 = .ok (.aload_n 2, 1) := by decide +kernel
theorem d11_26 : decode prog_10_method_8_code 26 = .ok (.invokevirtual 43, 3) := by decide +kernel
theorem d11_29 : decode prog_10_method_8_code 29 = .ok (.istore 4, 2) := by decide +kernel
theorem d11_31 : decode prog_10_method_8_code 31 = .ok (.aload_n 0, 1) := by decide +kernel
theorem d11_32 : decode prog_10_method_8_code 32 = .ok (.dup, 1) := by decide +kernel
theorem d11_33 : decode prog_10_method_8_code 33 = .ok (.getfield 16, 3) := by decide +kernel
theorem d11_36 : decode prog_10_method_8_code 36 = .ok (.iload 4, 2) := by decide +kernel
theorem d11_38 : decode prog_10_method_8_code 38 = .ok (.iadd, 1) := by decide +kernel
theorem d11_39 : decode prog_10_method_8_code 39 = .ok (.putfield 16, 3) := by decide +kernel
theorem d11_42 : decode prog_10_method_8_code 42 = .ok (.aload_n 0, 1) := by decide +kernel
theorem d11_43 : decode prog_10_method_8_code 43 = .ok (.getfield 12, 3) := by decide +kernel
theorem d11_46 : decode prog_10_method_8_code 46 = .ok (.iload_n 1, 1) := by decide +kernel
theorem d11_47 : decode prog_10_method_8_code 47 = .ok (.aload_n 0, 1) := by decide +kernel
theorem d11_48 : decode prog_10_method_8_code 48 = .ok (.getfield 16, 3) := by decide +kernel
theorem d11_51 : decode prog_10_method_8_code 51 = .ok (.invokestatic 55, 3) := by decide +kernel
theorem d11_54 : decode prog_10_method_8_code 54 = .ok (.areturn, 1) := by decide +kernel
theorem ef_11i2_4_8 (m : MethodId) (x0 : Addr) : entryFrame m #[(.ref x0)] 5 = mkF m 0 #[.val (.ref x0), .unset, .unset, .unset, .unset] [] := by first | (simp [entryFrame, mkF, argsToLocals, Value.category]; done) | rfl
def Q11i2_4_8 (Z : State) (r0 : Addr) (ab : Addr) (kc : ClassId) (dd0 : Int32) (dd1 : Int32) (dd2 : Int32) (dd3 : Int32) (dd4 : Int32) (dd5 : Int32) (dd6 : Int32) (dd7 : Int32) (h0 : Heap) (n0 : Nat) (v : Option Value) (h : Heap) (L : List Loc) : Prop := ∃ y, v = some (.ref y) ∧ Fr n0 L ∧ Keep h0 h [r0] ∧ Fld Z h r0 "com/example/fair_witness/fairwitness/attestation/DerReader" "bytes" "[B" (.ref ab) ∧ Fld Z h r0 "com/example/fair_witness/fairwitness/attestation/DerReader" "position" "I" (.int (8 : Int32)) ∧ Fld Z h r0 "com/example/fair_witness/fairwitness/attestation/DerReader" "end" "I" (.int (8 : Int32))
set_option maxRecDepth 65536 in
set_option maxHeartbeats 40000000 in
theorem rm11i2_4_8 (l : Launch) (Z : State) (a0 : Array Value) (hw : ∀ d ∈ tables_1, d.before a0 Z = true) (ws : List Jvm.Cond) (r0 : Addr) (ab : Addr) (kc : ClassId) (dd0 : Int32) (dd1 : Int32) (dd2 : Int32) (dd3 : Int32) (dd4 : Int32) (dd5 : Int32) (dd6 : Int32) (dd7 : Int32) (h0 : Heap) (n0 : Nat) (Z0 : n0 ≤ h0.size) (F_bytes_r0 : Fld Z h0 r0 "com/example/fair_witness/fairwitness/attestation/DerReader" "bytes" "[B" (.ref ab)) (F_position_r0 : Fld Z h0 r0 "com/example/fair_witness/fairwitness/attestation/DerReader" "position" "I" (.int (2 : Int32))) (F_end_r0 : Fld Z h0 r0 "com/example/fair_witness/fairwitness/attestation/DerReader" "end" "I" (.int (8 : Int32))) (E_r0 : Exa Z h0 r0 "com/example/fair_witness/fairwitness/attestation/DerReader") (g_r0 : n0 ≤ r0) (V_ab : Arv Z h0 ab kc .byte (8 : Int32) [(.int dd0), (.int dd1), (.int dd2), (.int dd3), (.int dd4), (.int dd5), (.int dd6), (.int dd7)] (.int (0 : Int32))) (E_ab : Exa Z h0 ab "[B") (ht : ¬ (((dd2 &&& (255 : Int32)) &&& (31 : Int32)) = (31 : Int32))) (hv3 : (dd3 &&& (255 : Int32)) = (4 : Int32)) :
    MetFree l (⟨"com/example/fair_witness/fairwitness/attestation/DerReader", "readElement", "()[B"⟩ : MethodName) (head1 (Jvm.Cond.code (⟨"com/example/fair_witness/fairwitness/attestation/DerReader", "readElement", "()[B"⟩ : MethodName) prog_10_method_8_code 5 (some (.array .byte)) :: ws) ({ frames := 3, cells := 3, slots := 38, locals := 48 } : Room)) (fun a U => a = #[(.ref r0)] ∧ Z.Warmed39 U.vm ∧ U.heap = h0) (fun _ _ _ _ _ => True) (fun _ U o U' => ∃ v L, o = .returned v ∧ Q11i2_4_8 Z r0 ab kc dd0 dd1 dd2 dd3 dd4 dd5 dd6 dd7 h0 n0 v U'.heap L ∧ ReturnedEndW U o U' L ({ frames := 3, cells := 3, slots := 38, locals := 48 } : Room).cells ({ frames := 3, cells := 3, slots := 38, locals := 48 } : Room).slots) := by
  refine MetFree.of_bodySF (plainFor_of_name pn1) hisR ?_
  intro p e s m args below meth c s₁ Bd hml0 hP hK
  obtain ⟨rfl, hZ, hh⟩ := hP
  have hx := Bd.exec
  have hby := Bd.bytes
  have hml : c.maxLocals = 5 := hml0
  have hown : s.vm.findClass "com/example/fair_witness/fairwitness/attestation/DerReader" = some m.cls := findClass_of_methodNamed Bd.named
  have hnm := (name_of_methodNamed Bd.named Bd.method).1
  have X0 : Stand p l e ({ frames := 3, cells := 3, slots := 38, locals := 48 } : Room) s m #[(.ref r0)] below meth c s₁ [] 0 0 := Stand.of_body Bd
  have e0 : s₁.heap = h0 := by rw [← hh, Bd.state]; rfl
  have N0 := Fr.nil n0
  have pre0 : ∀ t, Steps p.tables e below (s₁.setTop (mkF m 0 #[rv r0, .unset, .unset, .unset, .unset] [])) t → Steps p.tables e below (s₁.setTop (entryFrame m #[(.ref r0)] 5)) t := fun t k => castTop (ef_11i2_4_8 m r0) k
  have hS0 : s.Since s.vm h0.size := (State.WarmedH.refl s).since _
  have pre1 : ∀ t, Steps p.tables e below (s₁.setTop (mkF m 1 #[rv r0, .unset, .unset, .unset, .unset] [(.ref r0)])) t → Steps p.tables e below (s₁.setTop (entryFrame m #[(.ref r0)] 5)) t := by
    intro t kt
    refine pre0 _ ?_
    show Steps p.tables e below (s₁.setTop (mkF m 0 #[rv r0, .unset, .unset, .unset, .unset] [])) _
    refine XS.aloadN X0.here hx rfl (hb hby d11_0) rfl rfl ?_
    exact kt
  obtain ⟨T2, X2, e2, st2⟩ := getF X0 hx hZ hown (host := "") (Or.inl (hw _ (List.mem_of_getElem? (i := 19) rfl))) Via.refl e0 F_position_r0 (g := (mkF m 1 #[rv r0, .unset, .unset, .unset, .unset] [(.ref r0)])) rfl rfl (hb hby d11_1)
  have pre3 : ∀ t, Steps p.tables e below (T2.setTop (mkF m 5 #[rv r0, iv (2 : Int32), .unset, .unset, .unset] [])) t → Steps p.tables e below (s₁.setTop (entryFrame m #[(.ref r0)] 5)) t := by
    intro t kt
    refine pre1 _ ?_
    show Steps p.tables e below (s₁.setTop (mkF m 1 #[rv r0, .unset, .unset, .unset, .unset] [(.ref r0)])) _
    refine st2 _ ?_
    show Steps p.tables e below (T2.setTop (mkF m 4 #[rv r0, .unset, .unset, .unset, .unset] [(.int (2 : Int32))])) _
    refine XS.istoreN X2.here hx rfl (hb hby d11_4) rfl (l' := #[rv r0, iv (2 : Int32), .unset, .unset, .unset]) rfl ?_
    exact kt
  obtain ⟨b4, T4, h4, k4, X4, e4, E4, hS4, hk4, hZ, hown, st4⟩ := ldcS (s := s) (vm0 := s.vm) X2 hx hZ hown (hw _ (List.mem_of_getElem? (i := 62) rfl)) (own_wS hw) e2 hS0 (Nat.le_refl _) (g := (mkF m 5 #[rv r0, iv (2 : Int32), .unset, .unset, .unset] [])) rfl (hb hby d11_5) (n := 28) (by decide +kernel) (by decide) (by decide) (by decide)
  have K4 : Keep h0 h4 [r0] := (Keep.refl h0 [r0]).ext E4
  have pre5 : ∀ t, Steps p.tables e below (T4.setTop (mkF m 11 #[rv r0, iv (2 : Int32), rv b4, .unset, .unset] [(.ref b4), (.int (2 : Int32)), (.ref r0)])) t → Steps p.tables e below (s₁.setTop (entryFrame m #[(.ref r0)] 5)) t := by
    intro t kt
    refine pre3 _ ?_
    show Steps p.tables e below (T2.setTop (mkF m 5 #[rv r0, iv (2 : Int32), .unset, .unset, .unset] [])) _
    refine st4 _ ?_
    show Steps p.tables e below (T4.setTop (mkF m 7 #[rv r0, iv (2 : Int32), .unset, .unset, .unset] [(.ref b4)])) _
    refine XS.astoreN X4.here hx rfl (hb hby d11_7) rfl rfl (l' := #[rv r0, iv (2 : Int32), rv b4, .unset, .unset]) rfl ?_
    refine XS.aloadN X4.here hx rfl (hb hby d11_8) rfl rfl ?_
    refine XS.iloadN X4.here hx rfl (hb hby d11_9) rfl ?_
    refine XS.aloadN X4.here hx rfl (hb hby d11_10) rfl rfl ?_
    exact kt
  obtain ⟨cq6, q6, q6'⟩ := (E_r0.ext E4).cell
  obtain ⟨_, _, ⟨T6, L6, k6, n6⟩, -, X6, ⟨Lc6, hQ6, l6, y6, z6⟩, st6⟩ := X4.privateBack hx (y := (⟨"com/example/fair_witness/fairwitness/attestation/DerReader", "nextByte", "(ILjava/lang/String;)I"⟩ : MethodName)) hown (mvT hZ (hw _ (List.mem_of_getElem? (i := 39) rfl))) (mvT hZ (hw _ (List.mem_of_getElem? (i := 40) rfl))) (own_selp (y := (⟨"com/example/fair_witness/fairwitness/attestation/DerReader", "nextByte", "(ILjava/lang/String;)I"⟩ : MethodName)) (mvT hZ (hw _ (List.mem_of_getElem? (i := 6) rfl))) (Cond.privateMethod_at (mvP hZ (hw _ (List.mem_of_getElem? (i := 41) rfl)) (args := #[]))) (mvT hZ (hw _ (List.mem_of_getElem? (i := 40) rfl))) (by decide)) (Cond.privateMethod_at (mvP hZ (hw _ (List.mem_of_getElem? (i := 41) rfl)) (args := #[]))) (mvT hZ (hw _ (List.mem_of_getElem? (i := 42) rfl))) (by decide) (backOf (W := 0) (rm7i2 l Z a0 hw [] r0 (2 : Int32) b4 ab kc dd0 dd1 dd2 dd3 dd4 dd5 dd6 dd7 (8 : Int32) (dd2 &&& (255 : Int32)) h4 n0 (Nat.le_trans Z0 K4.1) (F_bytes_r0.ext E4) (F_position_r0.ext E4) (F_end_r0.ext E4) (E_r0.ext E4) g_r0 (V_ab.ext E4) (E_ab.ext E4) (by decide) rfl) hZ (hw _ (List.mem_of_getElem? (i := 42) rfl)) (hw _ (List.mem_of_getElem? (i := 7) rfl)) (by decide) (by decide)) (g := (mkF m 11 #[rv r0, iv (2 : Int32), rv b4, .unset, .unset] [(.ref b4), (.int (2 : Int32)), (.ref r0)])) rfl (by rw [hml]; rfl) (Steps.refl _) (a := r0) (by rw [e4]; exact q6) q6' (argsL := [(.int (2 : Int32)), (.ref b4)]) (rest := []) (lenOf pd3 rfl) rfl (by show 2 * 0 + _ ≤ _; exact Nat.le_of_eq rfl) (hb hby d11_11) (fun _ _ => ⟨rfl, e4, (by decide : 2 + 0 ≤ _), (by decide : 32 + 0 ≤ _)⟩)
  dsimp only [Pt.U, Pt.locs, Pt.cells, Pt.slots] at X6 l6 y6 z6 st6 hQ6
  subst l6 y6 z6
  obtain ⟨rfl, N6q, Kc6, Fb_6, Fp_6, Fe_6⟩ := hQ6
  have N6 := Fr.app N0 N6q
  have K6 : Keep h0 T6.heap [r0] := K4.trans Kc6 (allS (Or.inl (List.mem_of_getElem? (i := 0) rfl)) all0)
  have pre7 : ∀ t, Steps p.tables e below (T6.setTop (mkF m 19 #[rv r0, iv (2 : Int32), rv b4, iv (dd2 &&& (255 : Int32)), .unset] [(.ref b4), (.int (dd2 &&& (255 : Int32))), (.int (2 : Int32)), (.ref r0)])) t → Steps p.tables e below (s₁.setTop (entryFrame m #[(.ref r0)] 5)) t := by
    intro t kt
    refine pre5 _ ?_
    show Steps p.tables e below (T4.setTop (mkF m 11 #[rv r0, iv (2 : Int32), rv b4, .unset, .unset] [(.ref b4), (.int (2 : Int32)), (.ref r0)])) _
    refine st6.trans ?_
    show Steps p.tables e below (T6.setTop (mkF m 14 #[rv r0, iv (2 : Int32), rv b4, .unset, .unset] [(.int (dd2 &&& (255 : Int32)))])) _
    refine XS.istoreN X6.here hx rfl (hb hby d11_14) rfl (l' := #[rv r0, iv (2 : Int32), rv b4, iv (dd2 &&& (255 : Int32)), .unset]) rfl ?_
    refine XS.aloadN X6.here hx rfl (hb hby d11_15) rfl rfl ?_
    refine XS.iloadN X6.here hx rfl (hb hby d11_16) rfl ?_
    refine XS.iloadN X6.here hx rfl (hb hby d11_17) rfl ?_
    refine XS.aloadN X6.here hx rfl (hb hby d11_18) rfl rfl ?_
    exact kt
  have f8 := ((V_ab.ext E4).keep Kc6 (ninS (Exa.ne ((E_ab.ext E4).keep Kc6) ((E_r0.ext E4).keep Kc6) (by decide)) nin0))
  have f9 := ((E_ab.ext E4).keep Kc6)
  have f10 := ((E_r0.ext E4).keep Kc6)
  obtain ⟨cq11, q11, q11'⟩ := f10.cell
  obtain ⟨_, _, ⟨T11, L11, k11, n11⟩, -, X11, ⟨Lc11, hQ11, l11, y11, z11⟩, st11⟩ := X6.privateBack hx (y := (⟨"com/example/fair_witness/fairwitness/attestation/DerReader", "readTagNumber", "(IILjava/lang/String;)I"⟩ : MethodName)) hown (mvT hZ (hw _ (List.mem_of_getElem? (i := 63) rfl))) (mvT hZ (hw _ (List.mem_of_getElem? (i := 64) rfl))) (own_selp (y := (⟨"com/example/fair_witness/fairwitness/attestation/DerReader", "readTagNumber", "(IILjava/lang/String;)I"⟩ : MethodName)) (mvT hZ (hw _ (List.mem_of_getElem? (i := 6) rfl))) (Cond.privateMethod_at (mvP hZ (hw _ (List.mem_of_getElem? (i := 65) rfl)) (args := #[]))) (mvT hZ (hw _ (List.mem_of_getElem? (i := 64) rfl))) (by decide)) (Cond.privateMethod_at (mvP hZ (hw _ (List.mem_of_getElem? (i := 65) rfl)) (args := #[]))) (mvT hZ (hw _ (List.mem_of_getElem? (i := 66) rfl))) (by decide) (backOf (W := 0) (rm12 l Z a0 hw [] r0 (2 : Int32) (dd2 &&& (255 : Int32)) b4 T6.heap n0 (Nat.le_trans Z0 K6.1) ht) hZ (hw _ (List.mem_of_getElem? (i := 66) rfl)) (hw _ (List.mem_of_getElem? (i := 7) rfl)) (by decide) (by decide)) (g := (mkF m 19 #[rv r0, iv (2 : Int32), rv b4, iv (dd2 &&& (255 : Int32)), .unset] [(.ref b4), (.int (dd2 &&& (255 : Int32))), (.int (2 : Int32)), (.ref r0)])) rfl (by rw [hml]; rfl) (Steps.refl _) (a := r0) q11 q11' (argsL := [(.int (2 : Int32)), (.int (dd2 &&& (255 : Int32))), (.ref b4)]) (rest := []) (lenOf pd10 rfl) rfl (by show 2 * 0 + _ ≤ _; exact Nat.le_of_eq rfl) (hb hby d11_19) (fun _ _ => ⟨rfl, rfl, (by decide : 2 + 0 ≤ _), (by decide : 32 + 0 ≤ _)⟩)
  dsimp only [Pt.U, Pt.locs, Pt.cells, Pt.slots] at X11 l11 y11 z11 st11 hQ11
  subst l11 y11 z11
  obtain ⟨rfl, N11q, hh11⟩ := hQ11
  have N11 := Fr.app N6 N11q
  have pre12 : ∀ t, Steps p.tables e below (T11.setTop (mkF m 26 #[rv r0, iv (2 : Int32), rv b4, iv (dd2 &&& (255 : Int32)), .unset] [(.ref b4), (.int (2 : Int32)), (.ref r0)])) t → Steps p.tables e below (s₁.setTop (entryFrame m #[(.ref r0)] 5)) t := by
    intro t kt
    refine pre7 _ ?_
    show Steps p.tables e below (T6.setTop (mkF m 19 #[rv r0, iv (2 : Int32), rv b4, iv (dd2 &&& (255 : Int32)), .unset] [(.ref b4), (.int (dd2 &&& (255 : Int32))), (.int (2 : Int32)), (.ref r0)])) _
    refine st11.trans ?_
    show Steps p.tables e below (T11.setTop (mkF m 22 #[rv r0, iv (2 : Int32), rv b4, iv (dd2 &&& (255 : Int32)), .unset] [(.int ((dd2 &&& (255 : Int32)) &&& (31 : Int32)))])) _
    refine XS.pop X11.here hx rfl (hb hby d11_22) rfl rfl ?_
    refine XS.aloadN X11.here hx rfl (hb hby d11_23) rfl rfl ?_
    refine XS.iloadN X11.here hx rfl (hb hby d11_24) rfl ?_
    refine XS.aloadN X11.here hx rfl (hb hby d11_25) rfl rfl ?_
    exact kt
  obtain ⟨cq13, q13, q13'⟩ := f10.cell
  obtain ⟨_, _, ⟨T13, L13, k13, n13⟩, -, X13, ⟨Lc13, hQ13, l13, y13, z13⟩, st13⟩ := X11.privateBack hx (y := (⟨"com/example/fair_witness/fairwitness/attestation/DerReader", "readLength", "(ILjava/lang/String;)I"⟩ : MethodName)) hown (mvT hZ (hw _ (List.mem_of_getElem? (i := 43) rfl))) (mvT hZ (hw _ (List.mem_of_getElem? (i := 44) rfl))) (own_selp (y := (⟨"com/example/fair_witness/fairwitness/attestation/DerReader", "readLength", "(ILjava/lang/String;)I"⟩ : MethodName)) (mvT hZ (hw _ (List.mem_of_getElem? (i := 6) rfl))) (Cond.privateMethod_at (mvP hZ (hw _ (List.mem_of_getElem? (i := 45) rfl)) (args := #[]))) (mvT hZ (hw _ (List.mem_of_getElem? (i := 44) rfl))) (by decide)) (Cond.privateMethod_at (mvP hZ (hw _ (List.mem_of_getElem? (i := 45) rfl)) (args := #[]))) (mvT hZ (hw _ (List.mem_of_getElem? (i := 46) rfl))) (by decide) (backOf (W := 0) (rm8i3 l Z a0 hw [] r0 (2 : Int32) b4 ab kc dd0 dd1 dd2 dd3 dd4 dd5 dd6 dd7 (8 : Int32) (4 : Int32) T6.heap n0 (Nat.le_trans Z0 K6.1) Fb_6 Fp_6 Fe_6 f10 g_r0 f8 f9 (by decide) hv3 (by decide) (by decide) (by decide)) hZ (hw _ (List.mem_of_getElem? (i := 46) rfl)) (hw _ (List.mem_of_getElem? (i := 7) rfl)) (by decide) (by decide)) (g := (mkF m 26 #[rv r0, iv (2 : Int32), rv b4, iv (dd2 &&& (255 : Int32)), .unset] [(.ref b4), (.int (2 : Int32)), (.ref r0)])) rfl (by rw [hml]; rfl) (Steps.refl _) (a := r0) (by rw [hh11]; exact q13) q13' (argsL := [(.int (2 : Int32)), (.ref b4)]) (rest := []) (lenOf pd3 rfl) rfl (by show 2 * 0 + _ ≤ _; exact Nat.le_of_eq rfl) (hb hby d11_26) (fun _ _ => ⟨rfl, hh11, (by decide : 2 + 0 ≤ _), (by decide : 32 + 0 ≤ _)⟩)
  dsimp only [Pt.U, Pt.locs, Pt.cells, Pt.slots] at X13 l13 y13 z13 st13 hQ13
  subst l13 y13 z13
  obtain ⟨rfl, N13q, Kc13, Fb_13, Fp_13, Fe_13⟩ := hQ13
  have N13 := Fr.app N11 N13q
  have K13 : Keep h0 T13.heap [r0] := K6.trans Kc13 (allS (Or.inl (List.mem_of_getElem? (i := 0) rfl)) all0)
  have pre14 : ∀ t, Steps p.tables e below (T13.setTop (mkF m 33 #[rv r0, iv (2 : Int32), rv b4, iv (dd2 &&& (255 : Int32)), iv (4 : Int32)] [(.ref r0), (.ref r0)])) t → Steps p.tables e below (s₁.setTop (entryFrame m #[(.ref r0)] 5)) t := by
    intro t kt
    refine pre12 _ ?_
    show Steps p.tables e below (T11.setTop (mkF m 26 #[rv r0, iv (2 : Int32), rv b4, iv (dd2 &&& (255 : Int32)), .unset] [(.ref b4), (.int (2 : Int32)), (.ref r0)])) _
    refine st13.trans ?_
    show Steps p.tables e below (T13.setTop (mkF m 29 #[rv r0, iv (2 : Int32), rv b4, iv (dd2 &&& (255 : Int32)), .unset] [(.int (4 : Int32))])) _
    refine XS.istore X13.here hx rfl (hb hby d11_29) rfl (l' := #[rv r0, iv (2 : Int32), rv b4, iv (dd2 &&& (255 : Int32)), iv (4 : Int32)]) rfl ?_
    refine XS.aloadN X13.here hx rfl (hb hby d11_31) rfl rfl ?_
    refine XS.dup X13.here hx rfl (hb hby d11_32) rfl rfl ?_
    exact kt
  obtain ⟨T15, X15, e15, st15⟩ := getF X13 hx hZ hown (host := "") (Or.inl (hw _ (List.mem_of_getElem? (i := 19) rfl))) Via.refl rfl Fp_13 (g := (mkF m 33 #[rv r0, iv (2 : Int32), rv b4, iv (dd2 &&& (255 : Int32)), iv (4 : Int32)] [(.ref r0), (.ref r0)])) rfl rfl (hb hby d11_33)
  have pre16 : ∀ t, Steps p.tables e below (T15.setTop (mkF m 39 #[rv r0, iv (2 : Int32), rv b4, iv (dd2 &&& (255 : Int32)), iv (4 : Int32)] [(.int (8 : Int32)), (.ref r0)])) t → Steps p.tables e below (s₁.setTop (entryFrame m #[(.ref r0)] 5)) t := by
    intro t kt
    refine pre14 _ ?_
    show Steps p.tables e below (T13.setTop (mkF m 33 #[rv r0, iv (2 : Int32), rv b4, iv (dd2 &&& (255 : Int32)), iv (4 : Int32)] [(.ref r0), (.ref r0)])) _
    refine st15 _ ?_
    show Steps p.tables e below (T15.setTop (mkF m 36 #[rv r0, iv (2 : Int32), rv b4, iv (dd2 &&& (255 : Int32)), iv (4 : Int32)] [(.int (4 : Int32)), (.ref r0)])) _
    refine XS.iload X15.here hx rfl (hb hby d11_36) rfl ?_
    refine XS.iadd X15.here hx rfl (hb hby d11_38) rfl ?_
    show Steps p.tables e below (T15.setTop (mkF m 39 #[rv r0, iv (2 : Int32), rv b4, iv (dd2 &&& (255 : Int32)), iv (4 : Int32)] [(.int ((4 : Int32) + (4 : Int32))), (.ref r0)])) _
    rw [show ((4 : Int32) + (4 : Int32)) = (8 : Int32) from (by decide)]
    exact kt
  obtain ⟨T17, h17, X17, e17, W17, st17⟩ := putF X15 hx hZ hown (host := "") (Or.inl (hw _ (List.mem_of_getElem? (i := 19) rfl))) Via.refl e15 Fp_13 (f10.keep Kc13) (Or.inl (hw _ (List.mem_of_getElem? (i := 20) rfl))) (hw _ (List.mem_of_getElem? (i := 6) rfl)) (ty := .int) (by decide) rfl rfl (g := (mkF m 39 #[rv r0, iv (2 : Int32), rv b4, iv (dd2 &&& (255 : Int32)), iv (4 : Int32)] [(.int (8 : Int32)), (.ref r0)])) rfl rfl (hb hby d11_39)
  have Fw17 : Fld Z h17 r0 "com/example/fair_witness/fairwitness/attestation/DerReader" "position" "I" (.int (8 : Int32)) := Fp_13.same W17
  have K17 : Keep h0 h17 [r0] := K13.wr W17 (Or.inl (List.mem_of_getElem? (i := 0) rfl))
  have N17 := Fr.snoc X17 N13 g_r0
  have pre18 : ∀ t, Steps p.tables e below (T17.setTop (mkF m 43 #[rv r0, iv (2 : Int32), rv b4, iv (dd2 &&& (255 : Int32)), iv (4 : Int32)] [(.ref r0)])) t → Steps p.tables e below (s₁.setTop (entryFrame m #[(.ref r0)] 5)) t := by
    intro t kt
    refine pre16 _ ?_
    show Steps p.tables e below (T15.setTop (mkF m 39 #[rv r0, iv (2 : Int32), rv b4, iv (dd2 &&& (255 : Int32)), iv (4 : Int32)] [(.int (8 : Int32)), (.ref r0)])) _
    refine st17 _ ?_
    show Steps p.tables e below (T17.setTop (mkF m 42 #[rv r0, iv (2 : Int32), rv b4, iv (dd2 &&& (255 : Int32)), iv (4 : Int32)] [])) _
    refine XS.aloadN X17.here hx rfl (hb hby d11_42) rfl rfl ?_
    exact kt
  obtain ⟨T19, X19, e19, st19⟩ := getF X17 hx hZ hown (host := "") (Or.inl (hw _ (List.mem_of_getElem? (i := 17) rfl))) Via.refl e17 (Fb_13.other W17 (Or.inr (slot_ne (Or.inr (hw _ (List.mem_of_getElem? (i := 18) rfl))) (Or.inl (hw _ (List.mem_of_getElem? (i := 20) rfl))) (by decide) (t := (.array .byte)) (t' := .int) (by decide) (by decide)))) (g := (mkF m 43 #[rv r0, iv (2 : Int32), rv b4, iv (dd2 &&& (255 : Int32)), iv (4 : Int32)] [(.ref r0)])) rfl rfl (hb hby d11_43)
  have pre20 : ∀ t, Steps p.tables e below (T19.setTop (mkF m 48 #[rv r0, iv (2 : Int32), rv b4, iv (dd2 &&& (255 : Int32)), iv (4 : Int32)] [(.ref r0), (.int (2 : Int32)), (.ref ab)])) t → Steps p.tables e below (s₁.setTop (entryFrame m #[(.ref r0)] 5)) t := by
    intro t kt
    refine pre18 _ ?_
    show Steps p.tables e below (T17.setTop (mkF m 43 #[rv r0, iv (2 : Int32), rv b4, iv (dd2 &&& (255 : Int32)), iv (4 : Int32)] [(.ref r0)])) _
    refine st19 _ ?_
    show Steps p.tables e below (T19.setTop (mkF m 46 #[rv r0, iv (2 : Int32), rv b4, iv (dd2 &&& (255 : Int32)), iv (4 : Int32)] [(.ref ab)])) _
    refine XS.iloadN X19.here hx rfl (hb hby d11_46) rfl ?_
    refine XS.aloadN X19.here hx rfl (hb hby d11_47) rfl rfl ?_
    exact kt
  obtain ⟨T21, X21, e21, st21⟩ := getF X19 hx hZ hown (host := "") (Or.inl (hw _ (List.mem_of_getElem? (i := 19) rfl))) Via.refl e19 Fw17 (g := (mkF m 48 #[rv r0, iv (2 : Int32), rv b4, iv (dd2 &&& (255 : Int32)), iv (4 : Int32)] [(.ref r0), (.int (2 : Int32)), (.ref ab)])) rfl rfl (hb hby d11_48)
  have pre22 : ∀ t, Steps p.tables e below (T21.setTop (mkF m 51 #[rv r0, iv (2 : Int32), rv b4, iv (dd2 &&& (255 : Int32)), iv (4 : Int32)] [(.int (8 : Int32)), (.int (2 : Int32)), (.ref ab)])) t → Steps p.tables e below (s₁.setTop (entryFrame m #[(.ref r0)] 5)) t := by
    intro t kt
    refine pre20 _ ?_
    show Steps p.tables e below (T19.setTop (mkF m 48 #[rv r0, iv (2 : Int32), rv b4, iv (dd2 &&& (255 : Int32)), iv (4 : Int32)] [(.ref r0), (.int (2 : Int32)), (.ref ab)])) _
    refine st21 _ ?_
    exact kt
  have f23 := ((f8.keep Kc13 (ninS (Exa.ne ((f9.keep Kc13).wr W17) ((f10.keep Kc13).wr W17) (by decide)) nin0)).other W17 (Exa.ne ((f9.keep Kc13).wr W17) ((f10.keep Kc13).wr W17) (by decide)))
  have f24 := ((f9.keep Kc13).wr W17)
  have f25 := ((f10.keep Kc13).wr W17)
  obtain ⟨_, _, ⟨T26, L26, k26, n26⟩, -, X26, ⟨Lc26, hQ26, l26, y26, z26⟩, st26⟩ := Jvm.LawKit.callS X21 hx (y := (⟨"java/util/Arrays", "copyOfRange", "([BII)[B"⟩ : MethodName)) hown (mvT hZ (hw _ (List.mem_of_getElem? (i := 67) rfl))) (mvT hZ (hw _ (List.mem_of_getElem? (i := 68) rfl))) (mvT hZ (hw _ (List.mem_of_getElem? (i := 69) rfl))) (mvT hZ (hw _ (List.mem_of_getElem? (i := 70) rfl))) (by decide) (backOf (W := 0) (rm13i2_8 l Z a0 hw [] ab kc dd0 dd1 dd2 dd3 dd4 dd5 dd6 dd7 h17 n0 (Nat.le_trans Z0 K17.1) f23) hZ (hw _ (List.mem_of_getElem? (i := 70) rfl)) (hw _ (List.mem_of_getElem? (i := 69) rfl)) (by decide) (by decide)) (g := (mkF m 51 #[rv r0, iv (2 : Int32), rv b4, iv (dd2 &&& (255 : Int32)), iv (4 : Int32)] [(.int (8 : Int32)), (.int (2 : Int32)), (.ref ab)])) rfl (by rw [hml]; rfl) (argsL := [(.ref ab), (.int (2 : Int32)), (.int (8 : Int32))]) (rest := []) (lenOf pd9 rfl) rfl (by show 2 * 0 + _ ≤ _; exact Nat.le_of_eq rfl) (hb hby d11_51) (fun _ _ => ⟨rfl, e21, (by decide : 2 + 1 ≤ _), (by decide : 32 + 6 ≤ _)⟩)
  dsimp only [Pt.U, Pt.locs, Pt.cells, Pt.slots] at X26 l26 y26 z26 st26 hQ26
  subst l26 y26 z26
  obtain ⟨y26, rfl, N26q, Kc26⟩ := hQ26
  have N26 := Fr.app N17 N26q
  have K26 : Keep h0 T26.heap [r0] := K17.trans Kc26 all0
  have pre27 : ∀ t, Steps p.tables e below (T26.setTop (mkF m 54 #[rv r0, iv (2 : Int32), rv b4, iv (dd2 &&& (255 : Int32)), iv (4 : Int32)] [(.ref y26)])) t → Steps p.tables e below (s₁.setTop (entryFrame m #[(.ref r0)] 5)) t := by
    intro t kt
    refine pre22 _ ?_
    show Steps p.tables e below (T21.setTop (mkF m 51 #[rv r0, iv (2 : Int32), rv b4, iv (dd2 &&& (255 : Int32)), iv (4 : Int32)] [(.int (8 : Int32)), (.int (2 : Int32)), (.ref ab)])) _
    refine st26 _ ?_
    exact kt
  obtain ⟨fs, hr, hrun, hended, hRW⟩ := Jvm.Stand.leaveW (s := s) (vm₁ := T4.vm) X26 hS4 (Nat.le_trans (Nat.le_trans (Nat.le_trans (Nat.le_trans hk4 Kc6.1) Kc13.1) (Nat.le_of_eq W17.size.symm)) Kc26.1) (v := some (.ref y26)) (fun h => by rw [Bd.returns] at h; cases h)
  refine ⟨_, _, pre27 _ ?_, hrun, hended, _, _, rfl, ?_, hRW.1, hRW.2.1, hRW.2.2.1, hRW.2.2.2.mono (by decide) (by decide)⟩
  · show Steps p.tables e below (T26.setTop (mkF m 54 #[rv r0, iv (2 : Int32), rv b4, iv (dd2 &&& (255 : Int32)), iv (4 : Int32)] [(.ref y26)])) _
    jvm_step X26.here [X26.here.top, hx, (hb hby d11_54), X26.method', Bd.returns, Value.isRef, FieldType.isReference]
    first | (intro acts; rw [hr _ acts rfl rfl rfl]) | rw [hr _ _ rfl rfl rfl]
    exact Steps.refl _
  · show Q11i2_4_8 Z r0 ab kc dd0 dd1 dd2 dd3 dd4 dd5 dd6 dd7 h0 n0 _ T26.heap _
    exact ⟨y26, rfl, N26, K26, ((Fb_13.other W17 (Or.inr (slot_ne (Or.inr (hw _ (List.mem_of_getElem? (i := 18) rfl))) (Or.inl (hw _ (List.mem_of_getElem? (i := 20) rfl))) (by decide) (t := (.array .byte)) (t' := .int) (by decide) (by decide)))).keep Kc26 nin0), (Fw17.keep Kc26 nin0), ((Fe_13.other W17 (Or.inr (slot_ne (Or.inr (hw _ (List.mem_of_getElem? (i := 22) rfl))) (Or.inl (hw _ (List.mem_of_getElem? (i := 20) rfl))) (by decide) (t := .int) (t' := .int) (by decide) (by decide)))).keep Kc26 nin0)⟩

theorem ef_11i2_0_4 (m : MethodId) (x0 : Addr) : entryFrame m #[(.ref x0)] 5 = mkF m 0 #[.val (.ref x0), .unset, .unset, .unset, .unset] [] := by first | (simp [entryFrame, mkF, argsToLocals, Value.category]; done) | rfl
def Q11i2_0_4 (Z : State) (r0 : Addr) (ab : Addr) (kc : ClassId) (dd0 : Int32) (dd1 : Int32) (dd2 : Int32) (dd3 : Int32) (dd4 : Int32) (dd5 : Int32) (dd6 : Int32) (dd7 : Int32) (h0 : Heap) (n0 : Nat) (v : Option Value) (h : Heap) (L : List Loc) : Prop := ∃ y, v = some (.ref y) ∧ Fr n0 L ∧ Keep h0 h [r0] ∧ Fld Z h r0 "com/example/fair_witness/fairwitness/attestation/DerReader" "bytes" "[B" (.ref ab) ∧ Fld Z h r0 "com/example/fair_witness/fairwitness/attestation/DerReader" "position" "I" (.int (4 : Int32)) ∧ Fld Z h r0 "com/example/fair_witness/fairwitness/attestation/DerReader" "end" "I" (.int (4 : Int32))
set_option maxRecDepth 65536 in
set_option maxHeartbeats 40000000 in
theorem rm11i2_0_4 (l : Launch) (Z : State) (a0 : Array Value) (hw : ∀ d ∈ tables_1, d.before a0 Z = true) (ws : List Jvm.Cond) (r0 : Addr) (ab : Addr) (kc : ClassId) (dd0 : Int32) (dd1 : Int32) (dd2 : Int32) (dd3 : Int32) (dd4 : Int32) (dd5 : Int32) (dd6 : Int32) (dd7 : Int32) (h0 : Heap) (n0 : Nat) (Z0 : n0 ≤ h0.size) (F_bytes_r0 : Fld Z h0 r0 "com/example/fair_witness/fairwitness/attestation/DerReader" "bytes" "[B" (.ref ab)) (F_position_r0 : Fld Z h0 r0 "com/example/fair_witness/fairwitness/attestation/DerReader" "position" "I" (.int (2 : Int32))) (F_end_r0 : Fld Z h0 r0 "com/example/fair_witness/fairwitness/attestation/DerReader" "end" "I" (.int (4 : Int32))) (E_r0 : Exa Z h0 r0 "com/example/fair_witness/fairwitness/attestation/DerReader") (g_r0 : n0 ≤ r0) (V_ab : Arv Z h0 ab kc .byte (8 : Int32) [(.int dd0), (.int dd1), (.int dd2), (.int dd3), (.int dd4), (.int dd5), (.int dd6), (.int dd7)] (.int (0 : Int32))) (E_ab : Exa Z h0 ab "[B") (ht : ¬ (((dd2 &&& (255 : Int32)) &&& (31 : Int32)) = (31 : Int32))) (hv3 : (dd3 &&& (255 : Int32)) = (0 : Int32)) :
    MetFree l (⟨"com/example/fair_witness/fairwitness/attestation/DerReader", "readElement", "()[B"⟩ : MethodName) (head1 (Jvm.Cond.code (⟨"com/example/fair_witness/fairwitness/attestation/DerReader", "readElement", "()[B"⟩ : MethodName) prog_10_method_8_code 5 (some (.array .byte)) :: ws) ({ frames := 3, cells := 3, slots := 34, locals := 48 } : Room)) (fun a U => a = #[(.ref r0)] ∧ Z.Warmed39 U.vm ∧ U.heap = h0) (fun _ _ _ _ _ => True) (fun _ U o U' => ∃ v L, o = .returned v ∧ Q11i2_0_4 Z r0 ab kc dd0 dd1 dd2 dd3 dd4 dd5 dd6 dd7 h0 n0 v U'.heap L ∧ ReturnedEndW U o U' L ({ frames := 3, cells := 3, slots := 34, locals := 48 } : Room).cells ({ frames := 3, cells := 3, slots := 34, locals := 48 } : Room).slots) := by
  refine MetFree.of_bodySF (plainFor_of_name pn1) hisR ?_
  intro p e s m args below meth c s₁ Bd hml0 hP hK
  obtain ⟨rfl, hZ, hh⟩ := hP
  have hx := Bd.exec
  have hby := Bd.bytes
  have hml : c.maxLocals = 5 := hml0
  have hown : s.vm.findClass "com/example/fair_witness/fairwitness/attestation/DerReader" = some m.cls := findClass_of_methodNamed Bd.named
  have hnm := (name_of_methodNamed Bd.named Bd.method).1
  have X0 : Stand p l e ({ frames := 3, cells := 3, slots := 34, locals := 48 } : Room) s m #[(.ref r0)] below meth c s₁ [] 0 0 := Stand.of_body Bd
  have e0 : s₁.heap = h0 := by rw [← hh, Bd.state]; rfl
  have N0 := Fr.nil n0
  have pre0 : ∀ t, Steps p.tables e below (s₁.setTop (mkF m 0 #[rv r0, .unset, .unset, .unset, .unset] [])) t → Steps p.tables e below (s₁.setTop (entryFrame m #[(.ref r0)] 5)) t := fun t k => castTop (ef_11i2_0_4 m r0) k
  have hS0 : s.Since s.vm h0.size := (State.WarmedH.refl s).since _
  have pre1 : ∀ t, Steps p.tables e below (s₁.setTop (mkF m 1 #[rv r0, .unset, .unset, .unset, .unset] [(.ref r0)])) t → Steps p.tables e below (s₁.setTop (entryFrame m #[(.ref r0)] 5)) t := by
    intro t kt
    refine pre0 _ ?_
    show Steps p.tables e below (s₁.setTop (mkF m 0 #[rv r0, .unset, .unset, .unset, .unset] [])) _
    refine XS.aloadN X0.here hx rfl (hb hby d11_0) rfl rfl ?_
    exact kt
  obtain ⟨T2, X2, e2, st2⟩ := getF X0 hx hZ hown (host := "") (Or.inl (hw _ (List.mem_of_getElem? (i := 19) rfl))) Via.refl e0 F_position_r0 (g := (mkF m 1 #[rv r0, .unset, .unset, .unset, .unset] [(.ref r0)])) rfl rfl (hb hby d11_1)
  have pre3 : ∀ t, Steps p.tables e below (T2.setTop (mkF m 5 #[rv r0, iv (2 : Int32), .unset, .unset, .unset] [])) t → Steps p.tables e below (s₁.setTop (entryFrame m #[(.ref r0)] 5)) t := by
    intro t kt
    refine pre1 _ ?_
    show Steps p.tables e below (s₁.setTop (mkF m 1 #[rv r0, .unset, .unset, .unset, .unset] [(.ref r0)])) _
    refine st2 _ ?_
    show Steps p.tables e below (T2.setTop (mkF m 4 #[rv r0, .unset, .unset, .unset, .unset] [(.int (2 : Int32))])) _
    refine XS.istoreN X2.here hx rfl (hb hby d11_4) rfl (l' := #[rv r0, iv (2 : Int32), .unset, .unset, .unset]) rfl ?_
    exact kt
  obtain ⟨b4, T4, h4, k4, X4, e4, E4, hS4, hk4, hZ, hown, st4⟩ := ldcS (s := s) (vm0 := s.vm) X2 hx hZ hown (hw _ (List.mem_of_getElem? (i := 62) rfl)) (own_wS hw) e2 hS0 (Nat.le_refl _) (g := (mkF m 5 #[rv r0, iv (2 : Int32), .unset, .unset, .unset] [])) rfl (hb hby d11_5) (n := 28) (by decide +kernel) (by decide) (by decide) (by decide)
  have K4 : Keep h0 h4 [r0] := (Keep.refl h0 [r0]).ext E4
  have pre5 : ∀ t, Steps p.tables e below (T4.setTop (mkF m 11 #[rv r0, iv (2 : Int32), rv b4, .unset, .unset] [(.ref b4), (.int (2 : Int32)), (.ref r0)])) t → Steps p.tables e below (s₁.setTop (entryFrame m #[(.ref r0)] 5)) t := by
    intro t kt
    refine pre3 _ ?_
    show Steps p.tables e below (T2.setTop (mkF m 5 #[rv r0, iv (2 : Int32), .unset, .unset, .unset] [])) _
    refine st4 _ ?_
    show Steps p.tables e below (T4.setTop (mkF m 7 #[rv r0, iv (2 : Int32), .unset, .unset, .unset] [(.ref b4)])) _
    refine XS.astoreN X4.here hx rfl (hb hby d11_7) rfl rfl (l' := #[rv r0, iv (2 : Int32), rv b4, .unset, .unset]) rfl ?_
    refine XS.aloadN X4.here hx rfl (hb hby d11_8) rfl rfl ?_
    refine XS.iloadN X4.here hx rfl (hb hby d11_9) rfl ?_
    refine XS.aloadN X4.here hx rfl (hb hby d11_10) rfl rfl ?_
    exact kt
  obtain ⟨cq6, q6, q6'⟩ := (E_r0.ext E4).cell
  obtain ⟨_, _, ⟨T6, L6, k6, n6⟩, -, X6, ⟨Lc6, hQ6, l6, y6, z6⟩, st6⟩ := X4.privateBack hx (y := (⟨"com/example/fair_witness/fairwitness/attestation/DerReader", "nextByte", "(ILjava/lang/String;)I"⟩ : MethodName)) hown (mvT hZ (hw _ (List.mem_of_getElem? (i := 39) rfl))) (mvT hZ (hw _ (List.mem_of_getElem? (i := 40) rfl))) (own_selp (y := (⟨"com/example/fair_witness/fairwitness/attestation/DerReader", "nextByte", "(ILjava/lang/String;)I"⟩ : MethodName)) (mvT hZ (hw _ (List.mem_of_getElem? (i := 6) rfl))) (Cond.privateMethod_at (mvP hZ (hw _ (List.mem_of_getElem? (i := 41) rfl)) (args := #[]))) (mvT hZ (hw _ (List.mem_of_getElem? (i := 40) rfl))) (by decide)) (Cond.privateMethod_at (mvP hZ (hw _ (List.mem_of_getElem? (i := 41) rfl)) (args := #[]))) (mvT hZ (hw _ (List.mem_of_getElem? (i := 42) rfl))) (by decide) (backOf (W := 0) (rm7i2 l Z a0 hw [] r0 (2 : Int32) b4 ab kc dd0 dd1 dd2 dd3 dd4 dd5 dd6 dd7 (4 : Int32) (dd2 &&& (255 : Int32)) h4 n0 (Nat.le_trans Z0 K4.1) (F_bytes_r0.ext E4) (F_position_r0.ext E4) (F_end_r0.ext E4) (E_r0.ext E4) g_r0 (V_ab.ext E4) (E_ab.ext E4) (by decide) rfl) hZ (hw _ (List.mem_of_getElem? (i := 42) rfl)) (hw _ (List.mem_of_getElem? (i := 7) rfl)) (by decide) (by decide)) (g := (mkF m 11 #[rv r0, iv (2 : Int32), rv b4, .unset, .unset] [(.ref b4), (.int (2 : Int32)), (.ref r0)])) rfl (by rw [hml]; rfl) (Steps.refl _) (a := r0) (by rw [e4]; exact q6) q6' (argsL := [(.int (2 : Int32)), (.ref b4)]) (rest := []) (lenOf pd3 rfl) rfl (by show 2 * 0 + _ ≤ _; exact Nat.le_of_eq rfl) (hb hby d11_11) (fun _ _ => ⟨rfl, e4, (by decide : 2 + 0 ≤ _), (by decide : 32 + 0 ≤ _)⟩)
  dsimp only [Pt.U, Pt.locs, Pt.cells, Pt.slots] at X6 l6 y6 z6 st6 hQ6
  subst l6 y6 z6
  obtain ⟨rfl, N6q, Kc6, Fb_6, Fp_6, Fe_6⟩ := hQ6
  have N6 := Fr.app N0 N6q
  have K6 : Keep h0 T6.heap [r0] := K4.trans Kc6 (allS (Or.inl (List.mem_of_getElem? (i := 0) rfl)) all0)
  have pre7 : ∀ t, Steps p.tables e below (T6.setTop (mkF m 19 #[rv r0, iv (2 : Int32), rv b4, iv (dd2 &&& (255 : Int32)), .unset] [(.ref b4), (.int (dd2 &&& (255 : Int32))), (.int (2 : Int32)), (.ref r0)])) t → Steps p.tables e below (s₁.setTop (entryFrame m #[(.ref r0)] 5)) t := by
    intro t kt
    refine pre5 _ ?_
    show Steps p.tables e below (T4.setTop (mkF m 11 #[rv r0, iv (2 : Int32), rv b4, .unset, .unset] [(.ref b4), (.int (2 : Int32)), (.ref r0)])) _
    refine st6.trans ?_
    show Steps p.tables e below (T6.setTop (mkF m 14 #[rv r0, iv (2 : Int32), rv b4, .unset, .unset] [(.int (dd2 &&& (255 : Int32)))])) _
    refine XS.istoreN X6.here hx rfl (hb hby d11_14) rfl (l' := #[rv r0, iv (2 : Int32), rv b4, iv (dd2 &&& (255 : Int32)), .unset]) rfl ?_
    refine XS.aloadN X6.here hx rfl (hb hby d11_15) rfl rfl ?_
    refine XS.iloadN X6.here hx rfl (hb hby d11_16) rfl ?_
    refine XS.iloadN X6.here hx rfl (hb hby d11_17) rfl ?_
    refine XS.aloadN X6.here hx rfl (hb hby d11_18) rfl rfl ?_
    exact kt
  have f8 := ((V_ab.ext E4).keep Kc6 (ninS (Exa.ne ((E_ab.ext E4).keep Kc6) ((E_r0.ext E4).keep Kc6) (by decide)) nin0))
  have f9 := ((E_ab.ext E4).keep Kc6)
  have f10 := ((E_r0.ext E4).keep Kc6)
  obtain ⟨cq11, q11, q11'⟩ := f10.cell
  obtain ⟨_, _, ⟨T11, L11, k11, n11⟩, -, X11, ⟨Lc11, hQ11, l11, y11, z11⟩, st11⟩ := X6.privateBack hx (y := (⟨"com/example/fair_witness/fairwitness/attestation/DerReader", "readTagNumber", "(IILjava/lang/String;)I"⟩ : MethodName)) hown (mvT hZ (hw _ (List.mem_of_getElem? (i := 63) rfl))) (mvT hZ (hw _ (List.mem_of_getElem? (i := 64) rfl))) (own_selp (y := (⟨"com/example/fair_witness/fairwitness/attestation/DerReader", "readTagNumber", "(IILjava/lang/String;)I"⟩ : MethodName)) (mvT hZ (hw _ (List.mem_of_getElem? (i := 6) rfl))) (Cond.privateMethod_at (mvP hZ (hw _ (List.mem_of_getElem? (i := 65) rfl)) (args := #[]))) (mvT hZ (hw _ (List.mem_of_getElem? (i := 64) rfl))) (by decide)) (Cond.privateMethod_at (mvP hZ (hw _ (List.mem_of_getElem? (i := 65) rfl)) (args := #[]))) (mvT hZ (hw _ (List.mem_of_getElem? (i := 66) rfl))) (by decide) (backOf (W := 0) (rm12 l Z a0 hw [] r0 (2 : Int32) (dd2 &&& (255 : Int32)) b4 T6.heap n0 (Nat.le_trans Z0 K6.1) ht) hZ (hw _ (List.mem_of_getElem? (i := 66) rfl)) (hw _ (List.mem_of_getElem? (i := 7) rfl)) (by decide) (by decide)) (g := (mkF m 19 #[rv r0, iv (2 : Int32), rv b4, iv (dd2 &&& (255 : Int32)), .unset] [(.ref b4), (.int (dd2 &&& (255 : Int32))), (.int (2 : Int32)), (.ref r0)])) rfl (by rw [hml]; rfl) (Steps.refl _) (a := r0) q11 q11' (argsL := [(.int (2 : Int32)), (.int (dd2 &&& (255 : Int32))), (.ref b4)]) (rest := []) (lenOf pd10 rfl) rfl (by show 2 * 0 + _ ≤ _; exact Nat.le_of_eq rfl) (hb hby d11_19) (fun _ _ => ⟨rfl, rfl, (by decide : 2 + 0 ≤ _), (by decide : 32 + 0 ≤ _)⟩)
  dsimp only [Pt.U, Pt.locs, Pt.cells, Pt.slots] at X11 l11 y11 z11 st11 hQ11
  subst l11 y11 z11
  obtain ⟨rfl, N11q, hh11⟩ := hQ11
  have N11 := Fr.app N6 N11q
  have pre12 : ∀ t, Steps p.tables e below (T11.setTop (mkF m 26 #[rv r0, iv (2 : Int32), rv b4, iv (dd2 &&& (255 : Int32)), .unset] [(.ref b4), (.int (2 : Int32)), (.ref r0)])) t → Steps p.tables e below (s₁.setTop (entryFrame m #[(.ref r0)] 5)) t := by
    intro t kt
    refine pre7 _ ?_
    show Steps p.tables e below (T6.setTop (mkF m 19 #[rv r0, iv (2 : Int32), rv b4, iv (dd2 &&& (255 : Int32)), .unset] [(.ref b4), (.int (dd2 &&& (255 : Int32))), (.int (2 : Int32)), (.ref r0)])) _
    refine st11.trans ?_
    show Steps p.tables e below (T11.setTop (mkF m 22 #[rv r0, iv (2 : Int32), rv b4, iv (dd2 &&& (255 : Int32)), .unset] [(.int ((dd2 &&& (255 : Int32)) &&& (31 : Int32)))])) _
    refine XS.pop X11.here hx rfl (hb hby d11_22) rfl rfl ?_
    refine XS.aloadN X11.here hx rfl (hb hby d11_23) rfl rfl ?_
    refine XS.iloadN X11.here hx rfl (hb hby d11_24) rfl ?_
    refine XS.aloadN X11.here hx rfl (hb hby d11_25) rfl rfl ?_
    exact kt
  obtain ⟨cq13, q13, q13'⟩ := f10.cell
  obtain ⟨_, _, ⟨T13, L13, k13, n13⟩, -, X13, ⟨Lc13, hQ13, l13, y13, z13⟩, st13⟩ := X11.privateBack hx (y := (⟨"com/example/fair_witness/fairwitness/attestation/DerReader", "readLength", "(ILjava/lang/String;)I"⟩ : MethodName)) hown (mvT hZ (hw _ (List.mem_of_getElem? (i := 43) rfl))) (mvT hZ (hw _ (List.mem_of_getElem? (i := 44) rfl))) (own_selp (y := (⟨"com/example/fair_witness/fairwitness/attestation/DerReader", "readLength", "(ILjava/lang/String;)I"⟩ : MethodName)) (mvT hZ (hw _ (List.mem_of_getElem? (i := 6) rfl))) (Cond.privateMethod_at (mvP hZ (hw _ (List.mem_of_getElem? (i := 45) rfl)) (args := #[]))) (mvT hZ (hw _ (List.mem_of_getElem? (i := 44) rfl))) (by decide)) (Cond.privateMethod_at (mvP hZ (hw _ (List.mem_of_getElem? (i := 45) rfl)) (args := #[]))) (mvT hZ (hw _ (List.mem_of_getElem? (i := 46) rfl))) (by decide) (backOf (W := 0) (rm8i3 l Z a0 hw [] r0 (2 : Int32) b4 ab kc dd0 dd1 dd2 dd3 dd4 dd5 dd6 dd7 (4 : Int32) (0 : Int32) T6.heap n0 (Nat.le_trans Z0 K6.1) Fb_6 Fp_6 Fe_6 f10 g_r0 f8 f9 (by decide) hv3 (by decide) (by decide) (by decide)) hZ (hw _ (List.mem_of_getElem? (i := 46) rfl)) (hw _ (List.mem_of_getElem? (i := 7) rfl)) (by decide) (by decide)) (g := (mkF m 26 #[rv r0, iv (2 : Int32), rv b4, iv (dd2 &&& (255 : Int32)), .unset] [(.ref b4), (.int (2 : Int32)), (.ref r0)])) rfl (by rw [hml]; rfl) (Steps.refl _) (a := r0) (by rw [hh11]; exact q13) q13' (argsL := [(.int (2 : Int32)), (.ref b4)]) (rest := []) (lenOf pd3 rfl) rfl (by show 2 * 0 + _ ≤ _; exact Nat.le_of_eq rfl) (hb hby d11_26) (fun _ _ => ⟨rfl, hh11, (by decide : 2 + 0 ≤ _), (by decide : 32 + 0 ≤ _)⟩)
  dsimp only [Pt.U, Pt.locs, Pt.cells, Pt.slots] at X13 l13 y13 z13 st13 hQ13
  subst l13 y13 z13
  obtain ⟨rfl, N13q, Kc13, Fb_13, Fp_13, Fe_13⟩ := hQ13
  have N13 := Fr.app N11 N13q
  have K13 : Keep h0 T13.heap [r0] := K6.trans Kc13 (allS (Or.inl (List.mem_of_getElem? (i := 0) rfl)) all0)
  have pre14 : ∀ t, Steps p.tables e below (T13.setTop (mkF m 33 #[rv r0, iv (2 : Int32), rv b4, iv (dd2 &&& (255 : Int32)), iv (0 : Int32)] [(.ref r0), (.ref r0)])) t → Steps p.tables e below (s₁.setTop (entryFrame m #[(.ref r0)] 5)) t := by
    intro t kt
    refine pre12 _ ?_
    show Steps p.tables e below (T11.setTop (mkF m 26 #[rv r0, iv (2 : Int32), rv b4, iv (dd2 &&& (255 : Int32)), .unset] [(.ref b4), (.int (2 : Int32)), (.ref r0)])) _
    refine st13.trans ?_
    show Steps p.tables e below (T13.setTop (mkF m 29 #[rv r0, iv (2 : Int32), rv b4, iv (dd2 &&& (255 : Int32)), .unset] [(.int (0 : Int32))])) _
    refine XS.istore X13.here hx rfl (hb hby d11_29) rfl (l' := #[rv r0, iv (2 : Int32), rv b4, iv (dd2 &&& (255 : Int32)), iv (0 : Int32)]) rfl ?_
    refine XS.aloadN X13.here hx rfl (hb hby d11_31) rfl rfl ?_
    refine XS.dup X13.here hx rfl (hb hby d11_32) rfl rfl ?_
    exact kt
  obtain ⟨T15, X15, e15, st15⟩ := getF X13 hx hZ hown (host := "") (Or.inl (hw _ (List.mem_of_getElem? (i := 19) rfl))) Via.refl rfl Fp_13 (g := (mkF m 33 #[rv r0, iv (2 : Int32), rv b4, iv (dd2 &&& (255 : Int32)), iv (0 : Int32)] [(.ref r0), (.ref r0)])) rfl rfl (hb hby d11_33)
  have pre16 : ∀ t, Steps p.tables e below (T15.setTop (mkF m 39 #[rv r0, iv (2 : Int32), rv b4, iv (dd2 &&& (255 : Int32)), iv (0 : Int32)] [(.int (4 : Int32)), (.ref r0)])) t → Steps p.tables e below (s₁.setTop (entryFrame m #[(.ref r0)] 5)) t := by
    intro t kt
    refine pre14 _ ?_
    show Steps p.tables e below (T13.setTop (mkF m 33 #[rv r0, iv (2 : Int32), rv b4, iv (dd2 &&& (255 : Int32)), iv (0 : Int32)] [(.ref r0), (.ref r0)])) _
    refine st15 _ ?_
    show Steps p.tables e below (T15.setTop (mkF m 36 #[rv r0, iv (2 : Int32), rv b4, iv (dd2 &&& (255 : Int32)), iv (0 : Int32)] [(.int (4 : Int32)), (.ref r0)])) _
    refine XS.iload X15.here hx rfl (hb hby d11_36) rfl ?_
    refine XS.iadd X15.here hx rfl (hb hby d11_38) rfl ?_
    show Steps p.tables e below (T15.setTop (mkF m 39 #[rv r0, iv (2 : Int32), rv b4, iv (dd2 &&& (255 : Int32)), iv (0 : Int32)] [(.int ((4 : Int32) + (0 : Int32))), (.ref r0)])) _
    rw [show ((4 : Int32) + (0 : Int32)) = (4 : Int32) from (by decide)]
    exact kt
  obtain ⟨T17, h17, X17, e17, W17, st17⟩ := putF X15 hx hZ hown (host := "") (Or.inl (hw _ (List.mem_of_getElem? (i := 19) rfl))) Via.refl e15 Fp_13 (f10.keep Kc13) (Or.inl (hw _ (List.mem_of_getElem? (i := 20) rfl))) (hw _ (List.mem_of_getElem? (i := 6) rfl)) (ty := .int) (by decide) rfl rfl (g := (mkF m 39 #[rv r0, iv (2 : Int32), rv b4, iv (dd2 &&& (255 : Int32)), iv (0 : Int32)] [(.int (4 : Int32)), (.ref r0)])) rfl rfl (hb hby d11_39)
  have Fw17 : Fld Z h17 r0 "com/example/fair_witness/fairwitness/attestation/DerReader" "position" "I" (.int (4 : Int32)) := Fp_13.same W17
  have K17 : Keep h0 h17 [r0] := K13.wr W17 (Or.inl (List.mem_of_getElem? (i := 0) rfl))
  have N17 := Fr.snoc X17 N13 g_r0
  have pre18 : ∀ t, Steps p.tables e below (T17.setTop (mkF m 43 #[rv r0, iv (2 : Int32), rv b4, iv (dd2 &&& (255 : Int32)), iv (0 : Int32)] [(.ref r0)])) t → Steps p.tables e below (s₁.setTop (entryFrame m #[(.ref r0)] 5)) t := by
    intro t kt
    refine pre16 _ ?_
    show Steps p.tables e below (T15.setTop (mkF m 39 #[rv r0, iv (2 : Int32), rv b4, iv (dd2 &&& (255 : Int32)), iv (0 : Int32)] [(.int (4 : Int32)), (.ref r0)])) _
    refine st17 _ ?_
    show Steps p.tables e below (T17.setTop (mkF m 42 #[rv r0, iv (2 : Int32), rv b4, iv (dd2 &&& (255 : Int32)), iv (0 : Int32)] [])) _
    refine XS.aloadN X17.here hx rfl (hb hby d11_42) rfl rfl ?_
    exact kt
  obtain ⟨T19, X19, e19, st19⟩ := getF X17 hx hZ hown (host := "") (Or.inl (hw _ (List.mem_of_getElem? (i := 17) rfl))) Via.refl e17 (Fb_13.other W17 (Or.inr (slot_ne (Or.inr (hw _ (List.mem_of_getElem? (i := 18) rfl))) (Or.inl (hw _ (List.mem_of_getElem? (i := 20) rfl))) (by decide) (t := (.array .byte)) (t' := .int) (by decide) (by decide)))) (g := (mkF m 43 #[rv r0, iv (2 : Int32), rv b4, iv (dd2 &&& (255 : Int32)), iv (0 : Int32)] [(.ref r0)])) rfl rfl (hb hby d11_43)
  have pre20 : ∀ t, Steps p.tables e below (T19.setTop (mkF m 48 #[rv r0, iv (2 : Int32), rv b4, iv (dd2 &&& (255 : Int32)), iv (0 : Int32)] [(.ref r0), (.int (2 : Int32)), (.ref ab)])) t → Steps p.tables e below (s₁.setTop (entryFrame m #[(.ref r0)] 5)) t := by
    intro t kt
    refine pre18 _ ?_
    show Steps p.tables e below (T17.setTop (mkF m 43 #[rv r0, iv (2 : Int32), rv b4, iv (dd2 &&& (255 : Int32)), iv (0 : Int32)] [(.ref r0)])) _
    refine st19 _ ?_
    show Steps p.tables e below (T19.setTop (mkF m 46 #[rv r0, iv (2 : Int32), rv b4, iv (dd2 &&& (255 : Int32)), iv (0 : Int32)] [(.ref ab)])) _
    refine XS.iloadN X19.here hx rfl (hb hby d11_46) rfl ?_
    refine XS.aloadN X19.here hx rfl (hb hby d11_47) rfl rfl ?_
    exact kt
  obtain ⟨T21, X21, e21, st21⟩ := getF X19 hx hZ hown (host := "") (Or.inl (hw _ (List.mem_of_getElem? (i := 19) rfl))) Via.refl e19 Fw17 (g := (mkF m 48 #[rv r0, iv (2 : Int32), rv b4, iv (dd2 &&& (255 : Int32)), iv (0 : Int32)] [(.ref r0), (.int (2 : Int32)), (.ref ab)])) rfl rfl (hb hby d11_48)
  have pre22 : ∀ t, Steps p.tables e below (T21.setTop (mkF m 51 #[rv r0, iv (2 : Int32), rv b4, iv (dd2 &&& (255 : Int32)), iv (0 : Int32)] [(.int (4 : Int32)), (.int (2 : Int32)), (.ref ab)])) t → Steps p.tables e below (s₁.setTop (entryFrame m #[(.ref r0)] 5)) t := by
    intro t kt
    refine pre20 _ ?_
    show Steps p.tables e below (T19.setTop (mkF m 48 #[rv r0, iv (2 : Int32), rv b4, iv (dd2 &&& (255 : Int32)), iv (0 : Int32)] [(.ref r0), (.int (2 : Int32)), (.ref ab)])) _
    refine st21 _ ?_
    exact kt
  have f23 := ((f8.keep Kc13 (ninS (Exa.ne ((f9.keep Kc13).wr W17) ((f10.keep Kc13).wr W17) (by decide)) nin0)).other W17 (Exa.ne ((f9.keep Kc13).wr W17) ((f10.keep Kc13).wr W17) (by decide)))
  have f24 := ((f9.keep Kc13).wr W17)
  have f25 := ((f10.keep Kc13).wr W17)
  obtain ⟨_, _, ⟨T26, L26, k26, n26⟩, -, X26, ⟨Lc26, hQ26, l26, y26, z26⟩, st26⟩ := Jvm.LawKit.callS X21 hx (y := (⟨"java/util/Arrays", "copyOfRange", "([BII)[B"⟩ : MethodName)) hown (mvT hZ (hw _ (List.mem_of_getElem? (i := 67) rfl))) (mvT hZ (hw _ (List.mem_of_getElem? (i := 68) rfl))) (mvT hZ (hw _ (List.mem_of_getElem? (i := 69) rfl))) (mvT hZ (hw _ (List.mem_of_getElem? (i := 70) rfl))) (by decide) (backOf (W := 0) (rm13i2_4 l Z a0 hw [] ab kc dd0 dd1 dd2 dd3 dd4 dd5 dd6 dd7 h17 n0 (Nat.le_trans Z0 K17.1) f23) hZ (hw _ (List.mem_of_getElem? (i := 70) rfl)) (hw _ (List.mem_of_getElem? (i := 69) rfl)) (by decide) (by decide)) (g := (mkF m 51 #[rv r0, iv (2 : Int32), rv b4, iv (dd2 &&& (255 : Int32)), iv (0 : Int32)] [(.int (4 : Int32)), (.int (2 : Int32)), (.ref ab)])) rfl (by rw [hml]; rfl) (argsL := [(.ref ab), (.int (2 : Int32)), (.int (4 : Int32))]) (rest := []) (lenOf pd9 rfl) rfl (by show 2 * 0 + _ ≤ _; exact Nat.le_of_eq rfl) (hb hby d11_51) (fun _ _ => ⟨rfl, e21, (by decide : 2 + 1 ≤ _), (by decide : 32 + 2 ≤ _)⟩)
  dsimp only [Pt.U, Pt.locs, Pt.cells, Pt.slots] at X26 l26 y26 z26 st26 hQ26
  subst l26 y26 z26
  obtain ⟨y26, rfl, N26q, Kc26⟩ := hQ26
  have N26 := Fr.app N17 N26q
  have K26 : Keep h0 T26.heap [r0] := K17.trans Kc26 all0
  have pre27 : ∀ t, Steps p.tables e below (T26.setTop (mkF m 54 #[rv r0, iv (2 : Int32), rv b4, iv (dd2 &&& (255 : Int32)), iv (0 : Int32)] [(.ref y26)])) t → Steps p.tables e below (s₁.setTop (entryFrame m #[(.ref r0)] 5)) t := by
    intro t kt
    refine pre22 _ ?_
    show Steps p.tables e below (T21.setTop (mkF m 51 #[rv r0, iv (2 : Int32), rv b4, iv (dd2 &&& (255 : Int32)), iv (0 : Int32)] [(.int (4 : Int32)), (.int (2 : Int32)), (.ref ab)])) _
    refine st26 _ ?_
    exact kt
  obtain ⟨fs, hr, hrun, hended, hRW⟩ := Jvm.Stand.leaveW (s := s) (vm₁ := T4.vm) X26 hS4 (Nat.le_trans (Nat.le_trans (Nat.le_trans (Nat.le_trans hk4 Kc6.1) Kc13.1) (Nat.le_of_eq W17.size.symm)) Kc26.1) (v := some (.ref y26)) (fun h => by rw [Bd.returns] at h; cases h)
  refine ⟨_, _, pre27 _ ?_, hrun, hended, _, _, rfl, ?_, hRW.1, hRW.2.1, hRW.2.2.1, hRW.2.2.2.mono (by decide) (by decide)⟩
  · show Steps p.tables e below (T26.setTop (mkF m 54 #[rv r0, iv (2 : Int32), rv b4, iv (dd2 &&& (255 : Int32)), iv (0 : Int32)] [(.ref y26)])) _
    jvm_step X26.here [X26.here.top, hx, (hb hby d11_54), X26.method', Bd.returns, Value.isRef, FieldType.isReference]
    first | (intro acts; rw [hr _ acts rfl rfl rfl]) | rw [hr _ _ rfl rfl rfl]
    exact Steps.refl _
  · show Q11i2_0_4 Z r0 ab kc dd0 dd1 dd2 dd3 dd4 dd5 dd6 dd7 h0 n0 _ T26.heap _
    exact ⟨y26, rfl, N26, K26, ((Fb_13.other W17 (Or.inr (slot_ne (Or.inr (hw _ (List.mem_of_getElem? (i := 18) rfl))) (Or.inl (hw _ (List.mem_of_getElem? (i := 20) rfl))) (by decide) (t := (.array .byte)) (t' := .int) (by decide) (by decide)))).keep Kc26 nin0), (Fw17.keep Kc26 nin0), ((Fe_13.other W17 (Or.inr (slot_ne (Or.inr (hw _ (List.mem_of_getElem? (i := 22) rfl))) (Or.inl (hw _ (List.mem_of_getElem? (i := 20) rfl))) (by decide) (t := .int) (t' := .int) (by decide) (by decide)))).keep Kc26 nin0)⟩

theorem ef_11i4_2_8 (m : MethodId) (x0 : Addr) : entryFrame m #[(.ref x0)] 5 = mkF m 0 #[.val (.ref x0), .unset, .unset, .unset, .unset] [] := by first | (simp [entryFrame, mkF, argsToLocals, Value.category]; done) | rfl
def Q11i4_2_8 (Z : State) (r0 : Addr) (ab : Addr) (kc : ClassId) (dd0 : Int32) (dd1 : Int32) (dd2 : Int32) (dd3 : Int32) (dd4 : Int32) (dd5 : Int32) (dd6 : Int32) (dd7 : Int32) (h0 : Heap) (n0 : Nat) (v : Option Value) (h : Heap) (L : List Loc) : Prop := ∃ y, v = some (.ref y) ∧ Fr n0 L ∧ Keep h0 h [r0] ∧ Fld Z h r0 "com/example/fair_witness/fairwitness/attestation/DerReader" "bytes" "[B" (.ref ab) ∧ Fld Z h r0 "com/example/fair_witness/fairwitness/attestation/DerReader" "position" "I" (.int (8 : Int32)) ∧ Fld Z h r0 "com/example/fair_witness/fairwitness/attestation/DerReader" "end" "I" (.int (8 : Int32))
set_option maxRecDepth 65536 in
set_option maxHeartbeats 40000000 in
theorem rm11i4_2_8 (l : Launch) (Z : State) (a0 : Array Value) (hw : ∀ d ∈ tables_1, d.before a0 Z = true) (ws : List Jvm.Cond) (r0 : Addr) (ab : Addr) (kc : ClassId) (dd0 : Int32) (dd1 : Int32) (dd2 : Int32) (dd3 : Int32) (dd4 : Int32) (dd5 : Int32) (dd6 : Int32) (dd7 : Int32) (h0 : Heap) (n0 : Nat) (Z0 : n0 ≤ h0.size) (F_bytes_r0 : Fld Z h0 r0 "com/example/fair_witness/fairwitness/attestation/DerReader" "bytes" "[B" (.ref ab)) (F_position_r0 : Fld Z h0 r0 "com/example/fair_witness/fairwitness/attestation/DerReader" "position" "I" (.int (4 : Int32))) (F_end_r0 : Fld Z h0 r0 "com/example/fair_witness/fairwitness/attestation/DerReader" "end" "I" (.int (8 : Int32))) (E_r0 : Exa Z h0 r0 "com/example/fair_witness/fairwitness/attestation/DerReader") (g_r0 : n0 ≤ r0) (V_ab : Arv Z h0 ab kc .byte (8 : Int32) [(.int dd0), (.int dd1), (.int dd2), (.int dd3), (.int dd4), (.int dd5), (.int dd6), (.int dd7)] (.int (0 : Int32))) (E_ab : Exa Z h0 ab "[B") (ht : ¬ (((dd4 &&& (255 : Int32)) &&& (31 : Int32)) = (31 : Int32))) (hv5 : (dd5 &&& (255 : Int32)) = (2 : Int32)) :
    MetFree l (⟨"com/example/fair_witness/fairwitness/attestation/DerReader", "readElement", "()[B"⟩ : MethodName) (head1 (Jvm.Cond.code (⟨"com/example/fair_witness/fairwitness/attestation/DerReader", "readElement", "()[B"⟩ : MethodName) prog_10_method_8_code 5 (some (.array .byte)) :: ws) ({ frames := 3, cells := 3, slots := 36, locals := 48 } : Room)) (fun a U => a = #[(.ref r0)] ∧ Z.Warmed39 U.vm ∧ U.heap = h0) (fun _ _ _ _ _ => True) (fun _ U o U' => ∃ v L, o = .returned v ∧ Q11i4_2_8 Z r0 ab kc dd0 dd1 dd2 dd3 dd4 dd5 dd6 dd7 h0 n0 v U'.heap L ∧ ReturnedEndW U o U' L ({ frames := 3, cells := 3, slots := 36, locals := 48 } : Room).cells ({ frames := 3, cells := 3, slots := 36, locals := 48 } : Room).slots) := by
  refine MetFree.of_bodySF (plainFor_of_name pn1) hisR ?_
  intro p e s m args below meth c s₁ Bd hml0 hP hK
  obtain ⟨rfl, hZ, hh⟩ := hP
  have hx := Bd.exec
  have hby := Bd.bytes
  have hml : c.maxLocals = 5 := hml0
  have hown : s.vm.findClass "com/example/fair_witness/fairwitness/attestation/DerReader" = some m.cls := findClass_of_methodNamed Bd.named
  have hnm := (name_of_methodNamed Bd.named Bd.method).1
  have X0 : Stand p l e ({ frames := 3, cells := 3, slots := 36, locals := 48 } : Room) s m #[(.ref r0)] below meth c s₁ [] 0 0 := Stand.of_body Bd
  have e0 : s₁.heap = h0 := by rw [← hh, Bd.state]; rfl
  have N0 := Fr.nil n0
  have pre0 : ∀ t, Steps p.tables e below (s₁.setTop (mkF m 0 #[rv r0, .unset, .unset, .unset, .unset] [])) t → Steps p.tables e below (s₁.setTop (entryFrame m #[(.ref r0)] 5)) t := fun t k => castTop (ef_11i4_2_8 m r0) k
  have hS0 : s.Since s.vm h0.size := (State.WarmedH.refl s).since _
  have pre1 : ∀ t, Steps p.tables e below (s₁.setTop (mkF m 1 #[rv r0, .unset, .unset, .unset, .unset] [(.ref r0)])) t → Steps p.tables e below (s₁.setTop (entryFrame m #[(.ref r0)] 5)) t := by
    intro t kt
    refine pre0 _ ?_
    show Steps p.tables e below (s₁.setTop (mkF m 0 #[rv r0, .unset, .unset, .unset, .unset] [])) _
    refine XS.aloadN X0.here hx rfl (hb hby d11_0) rfl rfl ?_
    exact kt
  obtain ⟨T2, X2, e2, st2⟩ := getF X0 hx hZ hown (host := "") (Or.inl (hw _ (List.mem_of_getElem? (i := 19) rfl))) Via.refl e0 F_position_r0 (g := (mkF m 1 #[rv r0, .unset, .unset, .unset, .unset] [(.ref r0)])) rfl rfl (hb hby d11_1)
  have pre3 : ∀ t, Steps p.tables e below (T2.setTop (mkF m 5 #[rv r0, iv (4 : Int32), .unset, .unset, .unset] [])) t → Steps p.tables e below (s₁.setTop (entryFrame m #[(.ref r0)] 5)) t := by
    intro t kt
    refine pre1 _ ?_
    show Steps p.tables e below (s₁.setTop (mkF m 1 #[rv r0, .unset, .unset, .unset, .unset] [(.ref r0)])) _
    refine st2 _ ?_
    show Steps p.tables e below (T2.setTop (mkF m 4 #[rv r0, .unset, .unset, .unset, .unset] [(.int (4 : Int32))])) _
    refine XS.istoreN X2.here hx rfl (hb hby d11_4) rfl (l' := #[rv r0, iv (4 : Int32), .unset, .unset, .unset]) rfl ?_
    exact kt
  obtain ⟨b4, T4, h4, k4, X4, e4, E4, hS4, hk4, hZ, hown, st4⟩ := ldcS (s := s) (vm0 := s.vm) X2 hx hZ hown (hw _ (List.mem_of_getElem? (i := 62) rfl)) (own_wS hw) e2 hS0 (Nat.le_refl _) (g := (mkF m 5 #[rv r0, iv (4 : Int32), .unset, .unset, .unset] [])) rfl (hb hby d11_5) (n := 28) (by decide +kernel) (by decide) (by decide) (by decide)
  have K4 : Keep h0 h4 [r0] := (Keep.refl h0 [r0]).ext E4
  have pre5 : ∀ t, Steps p.tables e below (T4.setTop (mkF m 11 #[rv r0, iv (4 : Int32), rv b4, .unset, .unset] [(.ref b4), (.int (4 : Int32)), (.ref r0)])) t → Steps p.tables e below (s₁.setTop (entryFrame m #[(.ref r0)] 5)) t := by
    intro t kt
    refine pre3 _ ?_
    show Steps p.tables e below (T2.setTop (mkF m 5 #[rv r0, iv (4 : Int32), .unset, .unset, .unset] [])) _
    refine st4 _ ?_
    show Steps p.tables e below (T4.setTop (mkF m 7 #[rv r0, iv (4 : Int32), .unset, .unset, .unset] [(.ref b4)])) _
    refine XS.astoreN X4.here hx rfl (hb hby d11_7) rfl rfl (l' := #[rv r0, iv (4 : Int32), rv b4, .unset, .unset]) rfl ?_
    refine XS.aloadN X4.here hx rfl (hb hby d11_8) rfl rfl ?_
    refine XS.iloadN X4.here hx rfl (hb hby d11_9) rfl ?_
    refine XS.aloadN X4.here hx rfl (hb hby d11_10) rfl rfl ?_
    exact kt
  obtain ⟨cq6, q6, q6'⟩ := (E_r0.ext E4).cell
  obtain ⟨_, _, ⟨T6, L6, k6, n6⟩, -, X6, ⟨Lc6, hQ6, l6, y6, z6⟩, st6⟩ := X4.privateBack hx (y := (⟨"com/example/fair_witness/fairwitness/attestation/DerReader", "nextByte", "(ILjava/lang/String;)I"⟩ : MethodName)) hown (mvT hZ (hw _ (List.mem_of_getElem? (i := 39) rfl))) (mvT hZ (hw _ (List.mem_of_getElem? (i := 40) rfl))) (own_selp (y := (⟨"com/example/fair_witness/fairwitness/attestation/DerReader", "nextByte", "(ILjava/lang/String;)I"⟩ : MethodName)) (mvT hZ (hw _ (List.mem_of_getElem? (i := 6) rfl))) (Cond.privateMethod_at (mvP hZ (hw _ (List.mem_of_getElem? (i := 41) rfl)) (args := #[]))) (mvT hZ (hw _ (List.mem_of_getElem? (i := 40) rfl))) (by decide)) (Cond.privateMethod_at (mvP hZ (hw _ (List.mem_of_getElem? (i := 41) rfl)) (args := #[]))) (mvT hZ (hw _ (List.mem_of_getElem? (i := 42) rfl))) (by decide) (backOf (W := 0) (rm7i4 l Z a0 hw [] r0 (4 : Int32) b4 ab kc dd0 dd1 dd2 dd3 dd4 dd5 dd6 dd7 (8 : Int32) (dd4 &&& (255 : Int32)) h4 n0 (Nat.le_trans Z0 K4.1) (F_bytes_r0.ext E4) (F_position_r0.ext E4) (F_end_r0.ext E4) (E_r0.ext E4) g_r0 (V_ab.ext E4) (E_ab.ext E4) (by decide) rfl) hZ (hw _ (List.mem_of_getElem? (i := 42) rfl)) (hw _ (List.mem_of_getElem? (i := 7) rfl)) (by decide) (by decide)) (g := (mkF m 11 #[rv r0, iv (4 : Int32), rv b4, .unset, .unset] [(.ref b4), (.int (4 : Int32)), (.ref r0)])) rfl (by rw [hml]; rfl) (Steps.refl _) (a := r0) (by rw [e4]; exact q6) q6' (argsL := [(.int (4 : Int32)), (.ref b4)]) (rest := []) (lenOf pd3 rfl) rfl (by show 2 * 0 + _ ≤ _; exact Nat.le_of_eq rfl) (hb hby d11_11) (fun _ _ => ⟨rfl, e4, (by decide : 2 + 0 ≤ _), (by decide : 32 + 0 ≤ _)⟩)
  dsimp only [Pt.U, Pt.locs, Pt.cells, Pt.slots] at X6 l6 y6 z6 st6 hQ6
  subst l6 y6 z6
  obtain ⟨rfl, N6q, Kc6, Fb_6, Fp_6, Fe_6⟩ := hQ6
  have N6 := Fr.app N0 N6q
  have K6 : Keep h0 T6.heap [r0] := K4.trans Kc6 (allS (Or.inl (List.mem_of_getElem? (i := 0) rfl)) all0)
  have pre7 : ∀ t, Steps p.tables e below (T6.setTop (mkF m 19 #[rv r0, iv (4 : Int32), rv b4, iv (dd4 &&& (255 : Int32)), .unset] [(.ref b4), (.int (dd4 &&& (255 : Int32))), (.int (4 : Int32)), (.ref r0)])) t → Steps p.tables e below (s₁.setTop (entryFrame m #[(.ref r0)] 5)) t := by
    intro t kt
    refine pre5 _ ?_
    show Steps p.tables e below (T4.setTop (mkF m 11 #[rv r0, iv (4 : Int32), rv b4, .unset, .unset] [(.ref b4), (.int (4 : Int32)), (.ref r0)])) _
    refine st6.trans ?_
    show Steps p.tables e below (T6.setTop (mkF m 14 #[rv r0, iv (4 : Int32), rv b4, .unset, .unset] [(.int (dd4 &&& (255 : Int32)))])) _
    refine XS.istoreN X6.here hx rfl (hb hby d11_14) rfl (l' := #[rv r0, iv (4 : Int32), rv b4, iv (dd4 &&& (255 : Int32)), .unset]) rfl ?_
    refine XS.aloadN X6.here hx rfl (hb hby d11_15) rfl rfl ?_
    refine XS.iloadN X6.here hx rfl (hb hby d11_16) rfl ?_
    refine XS.iloadN X6.here hx rfl (hb hby d11_17) rfl ?_
    refine XS.aloadN X6.here hx rfl (hb hby d11_18) rfl rfl ?_
    exact kt
  have f8 := ((V_ab.ext E4).keep Kc6 (ninS (Exa.ne ((E_ab.ext E4).keep Kc6) ((E_r0.ext E4).keep Kc6) (by decide)) nin0))
  have f9 := ((E_ab.ext E4).keep Kc6)
  have f10 := ((E_r0.ext E4).keep Kc6)
  obtain ⟨cq11, q11, q11'⟩ := f10.cell
  obtain ⟨_, _, ⟨T11, L11, k11, n11⟩, -, X11, ⟨Lc11, hQ11, l11, y11, z11⟩, st11⟩ := X6.privateBack hx (y := (⟨"com/example/fair_witness/fairwitness/attestation/DerReader", "readTagNumber", "(IILjava/lang/String;)I"⟩ : MethodName)) hown (mvT hZ (hw _ (List.mem_of_getElem? (i := 63) rfl))) (mvT hZ (hw _ (List.mem_of_getElem? (i := 64) rfl))) (own_selp (y := (⟨"com/example/fair_witness/fairwitness/attestation/DerReader", "readTagNumber", "(IILjava/lang/String;)I"⟩ : MethodName)) (mvT hZ (hw _ (List.mem_of_getElem? (i := 6) rfl))) (Cond.privateMethod_at (mvP hZ (hw _ (List.mem_of_getElem? (i := 65) rfl)) (args := #[]))) (mvT hZ (hw _ (List.mem_of_getElem? (i := 64) rfl))) (by decide)) (Cond.privateMethod_at (mvP hZ (hw _ (List.mem_of_getElem? (i := 65) rfl)) (args := #[]))) (mvT hZ (hw _ (List.mem_of_getElem? (i := 66) rfl))) (by decide) (backOf (W := 0) (rm12 l Z a0 hw [] r0 (4 : Int32) (dd4 &&& (255 : Int32)) b4 T6.heap n0 (Nat.le_trans Z0 K6.1) ht) hZ (hw _ (List.mem_of_getElem? (i := 66) rfl)) (hw _ (List.mem_of_getElem? (i := 7) rfl)) (by decide) (by decide)) (g := (mkF m 19 #[rv r0, iv (4 : Int32), rv b4, iv (dd4 &&& (255 : Int32)), .unset] [(.ref b4), (.int (dd4 &&& (255 : Int32))), (.int (4 : Int32)), (.ref r0)])) rfl (by rw [hml]; rfl) (Steps.refl _) (a := r0) q11 q11' (argsL := [(.int (4 : Int32)), (.int (dd4 &&& (255 : Int32))), (.ref b4)]) (rest := []) (lenOf pd10 rfl) rfl (by show 2 * 0 + _ ≤ _; exact Nat.le_of_eq rfl) (hb hby d11_19) (fun _ _ => ⟨rfl, rfl, (by decide : 2 + 0 ≤ _), (by decide : 32 + 0 ≤ _)⟩)
  dsimp only [Pt.U, Pt.locs, Pt.cells, Pt.slots] at X11 l11 y11 z11 st11 hQ11
  subst l11 y11 z11
  obtain ⟨rfl, N11q, hh11⟩ := hQ11
  have N11 := Fr.app N6 N11q
  have pre12 : ∀ t, Steps p.tables e below (T11.setTop (mkF m 26 #[rv r0, iv (4 : Int32), rv b4, iv (dd4 &&& (255 : Int32)), .unset] [(.ref b4), (.int (4 : Int32)), (.ref r0)])) t → Steps p.tables e below (s₁.setTop (entryFrame m #[(.ref r0)] 5)) t := by
    intro t kt
    refine pre7 _ ?_
    show Steps p.tables e below (T6.setTop (mkF m 19 #[rv r0, iv (4 : Int32), rv b4, iv (dd4 &&& (255 : Int32)), .unset] [(.ref b4), (.int (dd4 &&& (255 : Int32))), (.int (4 : Int32)), (.ref r0)])) _
    refine st11.trans ?_
    show Steps p.tables e below (T11.setTop (mkF m 22 #[rv r0, iv (4 : Int32), rv b4, iv (dd4 &&& (255 : Int32)), .unset] [(.int ((dd4 &&& (255 : Int32)) &&& (31 : Int32)))])) _
    refine XS.pop X11.here hx rfl (hb hby d11_22) rfl rfl ?_
    refine XS.aloadN X11.here hx rfl (hb hby d11_23) rfl rfl ?_
    refine XS.iloadN X11.here hx rfl (hb hby d11_24) rfl ?_
    refine XS.aloadN X11.here hx rfl (hb hby d11_25) rfl rfl ?_
    exact kt
  obtain ⟨cq13, q13, q13'⟩ := f10.cell
  obtain ⟨_, _, ⟨T13, L13, k13, n13⟩, -, X13, ⟨Lc13, hQ13, l13, y13, z13⟩, st13⟩ := X11.privateBack hx (y := (⟨"com/example/fair_witness/fairwitness/attestation/DerReader", "readLength", "(ILjava/lang/String;)I"⟩ : MethodName)) hown (mvT hZ (hw _ (List.mem_of_getElem? (i := 43) rfl))) (mvT hZ (hw _ (List.mem_of_getElem? (i := 44) rfl))) (own_selp (y := (⟨"com/example/fair_witness/fairwitness/attestation/DerReader", "readLength", "(ILjava/lang/String;)I"⟩ : MethodName)) (mvT hZ (hw _ (List.mem_of_getElem? (i := 6) rfl))) (Cond.privateMethod_at (mvP hZ (hw _ (List.mem_of_getElem? (i := 45) rfl)) (args := #[]))) (mvT hZ (hw _ (List.mem_of_getElem? (i := 44) rfl))) (by decide)) (Cond.privateMethod_at (mvP hZ (hw _ (List.mem_of_getElem? (i := 45) rfl)) (args := #[]))) (mvT hZ (hw _ (List.mem_of_getElem? (i := 46) rfl))) (by decide) (backOf (W := 0) (rm8i5 l Z a0 hw [] r0 (4 : Int32) b4 ab kc dd0 dd1 dd2 dd3 dd4 dd5 dd6 dd7 (8 : Int32) (2 : Int32) T6.heap n0 (Nat.le_trans Z0 K6.1) Fb_6 Fp_6 Fe_6 f10 g_r0 f8 f9 (by decide) hv5 (by decide) (by decide) (by decide)) hZ (hw _ (List.mem_of_getElem? (i := 46) rfl)) (hw _ (List.mem_of_getElem? (i := 7) rfl)) (by decide) (by decide)) (g := (mkF m 26 #[rv r0, iv (4 : Int32), rv b4, iv (dd4 &&& (255 : Int32)), .unset] [(.ref b4), (.int (4 : Int32)), (.ref r0)])) rfl (by rw [hml]; rfl) (Steps.refl _) (a := r0) (by rw [hh11]; exact q13) q13' (argsL := [(.int (4 : Int32)), (.ref b4)]) (rest := []) (lenOf pd3 rfl) rfl (by show 2 * 0 + _ ≤ _; exact Nat.le_of_eq rfl) (hb hby d11_26) (fun _ _ => ⟨rfl, hh11, (by decide : 2 + 0 ≤ _), (by decide : 32 + 0 ≤ _)⟩)
  dsimp only [Pt.U, Pt.locs, Pt.cells, Pt.slots] at X13 l13 y13 z13 st13 hQ13
  subst l13 y13 z13
  obtain ⟨rfl, N13q, Kc13, Fb_13, Fp_13, Fe_13⟩ := hQ13
  have N13 := Fr.app N11 N13q
  have K13 : Keep h0 T13.heap [r0] := K6.trans Kc13 (allS (Or.inl (List.mem_of_getElem? (i := 0) rfl)) all0)
  have pre14 : ∀ t, Steps p.tables e below (T13.setTop (mkF m 33 #[rv r0, iv (4 : Int32), rv b4, iv (dd4 &&& (255 : Int32)), iv (2 : Int32)] [(.ref r0), (.ref r0)])) t → Steps p.tables e below (s₁.setTop (entryFrame m #[(.ref r0)] 5)) t := by
    intro t kt
    refine pre12 _ ?_
    show Steps p.tables e below (T11.setTop (mkF m 26 #[rv r0, iv (4 : Int32), rv b4, iv (dd4 &&& (255 : Int32)), .unset] [(.ref b4), (.int (4 : Int32)), (.ref r0)])) _
    refine st13.trans ?_
    show Steps p.tables e below (T13.setTop (mkF m 29 #[rv r0, iv (4 : Int32), rv b4, iv (dd4 &&& (255 : Int32)), .unset] [(.int (2 : Int32))])) _
    refine XS.istore X13.here hx rfl (hb hby d11_29) rfl (l' := #[rv r0, iv (4 : Int32), rv b4, iv (dd4 &&& (255 : Int32)), iv (2 : Int32)]) rfl ?_
    refine XS.aloadN X13.here hx rfl (hb hby d11_31) rfl rfl ?_
    refine XS.dup X13.here hx rfl (hb hby d11_32) rfl rfl ?_
    exact kt
  obtain ⟨T15, X15, e15, st15⟩ := getF X13 hx hZ hown (host := "") (Or.inl (hw _ (List.mem_of_getElem? (i := 19) rfl))) Via.refl rfl Fp_13 (g := (mkF m 33 #[rv r0, iv (4 : Int32), rv b4, iv (dd4 &&& (255 : Int32)), iv (2 : Int32)] [(.ref r0), (.ref r0)])) rfl rfl (hb hby d11_33)
  have pre16 : ∀ t, Steps p.tables e below (T15.setTop (mkF m 39 #[rv r0, iv (4 : Int32), rv b4, iv (dd4 &&& (255 : Int32)), iv (2 : Int32)] [(.int (8 : Int32)), (.ref r0)])) t → Steps p.tables e below (s₁.setTop (entryFrame m #[(.ref r0)] 5)) t := by
    intro t kt
    refine pre14 _ ?_
    show Steps p.tables e below (T13.setTop (mkF m 33 #[rv r0, iv (4 : Int32), rv b4, iv (dd4 &&& (255 : Int32)), iv (2 : Int32)] [(.ref r0), (.ref r0)])) _
    refine st15 _ ?_
    show Steps p.tables e below (T15.setTop (mkF m 36 #[rv r0, iv (4 : Int32), rv b4, iv (dd4 &&& (255 : Int32)), iv (2 : Int32)] [(.int (6 : Int32)), (.ref r0)])) _
    refine XS.iload X15.here hx rfl (hb hby d11_36) rfl ?_
    refine XS.iadd X15.here hx rfl (hb hby d11_38) rfl ?_
    show Steps p.tables e below (T15.setTop (mkF m 39 #[rv r0, iv (4 : Int32), rv b4, iv (dd4 &&& (255 : Int32)), iv (2 : Int32)] [(.int ((6 : Int32) + (2 : Int32))), (.ref r0)])) _
    rw [show ((6 : Int32) + (2 : Int32)) = (8 : Int32) from (by decide)]
    exact kt
  obtain ⟨T17, h17, X17, e17, W17, st17⟩ := putF X15 hx hZ hown (host := "") (Or.inl (hw _ (List.mem_of_getElem? (i := 19) rfl))) Via.refl e15 Fp_13 (f10.keep Kc13) (Or.inl (hw _ (List.mem_of_getElem? (i := 20) rfl))) (hw _ (List.mem_of_getElem? (i := 6) rfl)) (ty := .int) (by decide) rfl rfl (g := (mkF m 39 #[rv r0, iv (4 : Int32), rv b4, iv (dd4 &&& (255 : Int32)), iv (2 : Int32)] [(.int (8 : Int32)), (.ref r0)])) rfl rfl (hb hby d11_39)
  have Fw17 : Fld Z h17 r0 "com/example/fair_witness/fairwitness/attestation/DerReader" "position" "I" (.int (8 : Int32)) := Fp_13.same W17
  have K17 : Keep h0 h17 [r0] := K13.wr W17 (Or.inl (List.mem_of_getElem? (i := 0) rfl))
  have N17 := Fr.snoc X17 N13 g_r0
  have pre18 : ∀ t, Steps p.tables e below (T17.setTop (mkF m 43 #[rv r0, iv (4 : Int32), rv b4, iv (dd4 &&& (255 : Int32)), iv (2 : Int32)] [(.ref r0)])) t → Steps p.tables e below (s₁.setTop (entryFrame m #[(.ref r0)] 5)) t := by
    intro t kt
    refine pre16 _ ?_
    show Steps p.tables e below (T15.setTop (mkF m 39 #[rv r0, iv (4 : Int32), rv b4, iv (dd4 &&& (255 : Int32)), iv (2 : Int32)] [(.int (8 : Int32)), (.ref r0)])) _
    refine st17 _ ?_
    show Steps p.tables e below (T17.setTop (mkF m 42 #[rv r0, iv (4 : Int32), rv b4, iv (dd4 &&& (255 : Int32)), iv (2 : Int32)] [])) _
    refine XS.aloadN X17.here hx rfl (hb hby d11_42) rfl rfl ?_
    exact kt
  obtain ⟨T19, X19, e19, st19⟩ := getF X17 hx hZ hown (host := "") (Or.inl (hw _ (List.mem_of_getElem? (i := 17) rfl))) Via.refl e17 (Fb_13.other W17 (Or.inr (slot_ne (Or.inr (hw _ (List.mem_of_getElem? (i := 18) rfl))) (Or.inl (hw _ (List.mem_of_getElem? (i := 20) rfl))) (by decide) (t := (.array .byte)) (t' := .int) (by decide) (by decide)))) (g := (mkF m 43 #[rv r0, iv (4 : Int32), rv b4, iv (dd4 &&& (255 : Int32)), iv (2 : Int32)] [(.ref r0)])) rfl rfl (hb hby d11_43)
  have pre20 : ∀ t, Steps p.tables e below (T19.setTop (mkF m 48 #[rv r0, iv (4 : Int32), rv b4, iv (dd4 &&& (255 : Int32)), iv (2 : Int32)] [(.ref r0), (.int (4 : Int32)), (.ref ab)])) t → Steps p.tables e below (s₁.setTop (entryFrame m #[(.ref r0)] 5)) t := by
    intro t kt
    refine pre18 _ ?_
    show Steps p.tables e below (T17.setTop (mkF m 43 #[rv r0, iv (4 : Int32), rv b4, iv (dd4 &&& (255 : Int32)), iv (2 : Int32)] [(.ref r0)])) _
    refine st19 _ ?_
    show Steps p.tables e below (T19.setTop (mkF m 46 #[rv r0, iv (4 : Int32), rv b4, iv (dd4 &&& (255 : Int32)), iv (2 : Int32)] [(.ref ab)])) _
    refine XS.iloadN X19.here hx rfl (hb hby d11_46) rfl ?_
    refine XS.aloadN X19.here hx rfl (hb hby d11_47) rfl rfl ?_
    exact kt
  obtain ⟨T21, X21, e21, st21⟩ := getF X19 hx hZ hown (host := "") (Or.inl (hw _ (List.mem_of_getElem? (i := 19) rfl))) Via.refl e19 Fw17 (g := (mkF m 48 #[rv r0, iv (4 : Int32), rv b4, iv (dd4 &&& (255 : Int32)), iv (2 : Int32)] [(.ref r0), (.int (4 : Int32)), (.ref ab)])) rfl rfl (hb hby d11_48)
  have pre22 : ∀ t, Steps p.tables e below (T21.setTop (mkF m 51 #[rv r0, iv (4 : Int32), rv b4, iv (dd4 &&& (255 : Int32)), iv (2 : Int32)] [(.int (8 : Int32)), (.int (4 : Int32)), (.ref ab)])) t → Steps p.tables e below (s₁.setTop (entryFrame m #[(.ref r0)] 5)) t := by
    intro t kt
    refine pre20 _ ?_
    show Steps p.tables e below (T19.setTop (mkF m 48 #[rv r0, iv (4 : Int32), rv b4, iv (dd4 &&& (255 : Int32)), iv (2 : Int32)] [(.ref r0), (.int (4 : Int32)), (.ref ab)])) _
    refine st21 _ ?_
    exact kt
  have f23 := ((f8.keep Kc13 (ninS (Exa.ne ((f9.keep Kc13).wr W17) ((f10.keep Kc13).wr W17) (by decide)) nin0)).other W17 (Exa.ne ((f9.keep Kc13).wr W17) ((f10.keep Kc13).wr W17) (by decide)))
  have f24 := ((f9.keep Kc13).wr W17)
  have f25 := ((f10.keep Kc13).wr W17)
  obtain ⟨_, _, ⟨T26, L26, k26, n26⟩, -, X26, ⟨Lc26, hQ26, l26, y26, z26⟩, st26⟩ := Jvm.LawKit.callS X21 hx (y := (⟨"java/util/Arrays", "copyOfRange", "([BII)[B"⟩ : MethodName)) hown (mvT hZ (hw _ (List.mem_of_getElem? (i := 67) rfl))) (mvT hZ (hw _ (List.mem_of_getElem? (i := 68) rfl))) (mvT hZ (hw _ (List.mem_of_getElem? (i := 69) rfl))) (mvT hZ (hw _ (List.mem_of_getElem? (i := 70) rfl))) (by decide) (backOf (W := 0) (rm13i4_8 l Z a0 hw [] ab kc dd0 dd1 dd2 dd3 dd4 dd5 dd6 dd7 h17 n0 (Nat.le_trans Z0 K17.1) f23) hZ (hw _ (List.mem_of_getElem? (i := 70) rfl)) (hw _ (List.mem_of_getElem? (i := 69) rfl)) (by decide) (by decide)) (g := (mkF m 51 #[rv r0, iv (4 : Int32), rv b4, iv (dd4 &&& (255 : Int32)), iv (2 : Int32)] [(.int (8 : Int32)), (.int (4 : Int32)), (.ref ab)])) rfl (by rw [hml]; rfl) (argsL := [(.ref ab), (.int (4 : Int32)), (.int (8 : Int32))]) (rest := []) (lenOf pd9 rfl) rfl (by show 2 * 0 + _ ≤ _; exact Nat.le_of_eq rfl) (hb hby d11_51) (fun _ _ => ⟨rfl, e21, (by decide : 2 + 1 ≤ _), (by decide : 32 + 4 ≤ _)⟩)
  dsimp only [Pt.U, Pt.locs, Pt.cells, Pt.slots] at X26 l26 y26 z26 st26 hQ26
  subst l26 y26 z26
  obtain ⟨y26, rfl, N26q, Kc26⟩ := hQ26
  have N26 := Fr.app N17 N26q
  have K26 : Keep h0 T26.heap [r0] := K17.trans Kc26 all0
  have pre27 : ∀ t, Steps p.tables e below (T26.setTop (mkF m 54 #[rv r0, iv (4 : Int32), rv b4, iv (dd4 &&& (255 : Int32)), iv (2 : Int32)] [(.ref y26)])) t → Steps p.tables e below (s₁.setTop (entryFrame m #[(.ref r0)] 5)) t := by
    intro t kt
    refine pre22 _ ?_
    show Steps p.tables e below (T21.setTop (mkF m 51 #[rv r0, iv (4 : Int32), rv b4, iv (dd4 &&& (255 : Int32)), iv (2 : Int32)] [(.int (8 : Int32)), (.int (4 : Int32)), (.ref ab)])) _
    refine st26 _ ?_
    exact kt
  obtain ⟨fs, hr, hrun, hended, hRW⟩ := Jvm.Stand.leaveW (s := s) (vm₁ := T4.vm) X26 hS4 (Nat.le_trans (Nat.le_trans (Nat.le_trans (Nat.le_trans hk4 Kc6.1) Kc13.1) (Nat.le_of_eq W17.size.symm)) Kc26.1) (v := some (.ref y26)) (fun h => by rw [Bd.returns] at h; cases h)
  refine ⟨_, _, pre27 _ ?_, hrun, hended, _, _, rfl, ?_, hRW.1, hRW.2.1, hRW.2.2.1, hRW.2.2.2.mono (by decide) (by decide)⟩
  · show Steps p.tables e below (T26.setTop (mkF m 54 #[rv r0, iv (4 : Int32), rv b4, iv (dd4 &&& (255 : Int32)), iv (2 : Int32)] [(.ref y26)])) _
    jvm_step X26.here [X26.here.top, hx, (hb hby d11_54), X26.method', Bd.returns, Value.isRef, FieldType.isReference]
    first | (intro acts; rw [hr _ acts rfl rfl rfl]) | rw [hr _ _ rfl rfl rfl]
    exact Steps.refl _
  · show Q11i4_2_8 Z r0 ab kc dd0 dd1 dd2 dd3 dd4 dd5 dd6 dd7 h0 n0 _ T26.heap _
    exact ⟨y26, rfl, N26, K26, ((Fb_13.other W17 (Or.inr (slot_ne (Or.inr (hw _ (List.mem_of_getElem? (i := 18) rfl))) (Or.inl (hw _ (List.mem_of_getElem? (i := 20) rfl))) (by decide) (t := (.array .byte)) (t' := .int) (by decide) (by decide)))).keep Kc26 nin0), (Fw17.keep Kc26 nin0), ((Fe_13.other W17 (Or.inr (slot_ne (Or.inr (hw _ (List.mem_of_getElem? (i := 22) rfl))) (Or.inl (hw _ (List.mem_of_getElem? (i := 20) rfl))) (by decide) (t := .int) (t' := .int) (by decide) (by decide)))).keep Kc26 nin0)⟩

theorem ef_11i2_1_5 (m : MethodId) (x0 : Addr) : entryFrame m #[(.ref x0)] 5 = mkF m 0 #[.val (.ref x0), .unset, .unset, .unset, .unset] [] := by first | (simp [entryFrame, mkF, argsToLocals, Value.category]; done) | rfl
def Q11i2_1_5 (Z : State) (r0 : Addr) (ab : Addr) (kc : ClassId) (dd0 : Int32) (dd1 : Int32) (dd2 : Int32) (dd3 : Int32) (dd4 : Int32) (dd5 : Int32) (dd6 : Int32) (dd7 : Int32) (h0 : Heap) (n0 : Nat) (v : Option Value) (h : Heap) (L : List Loc) : Prop := ∃ y, v = some (.ref y) ∧ Fr n0 L ∧ Keep h0 h [r0] ∧ Fld Z h r0 "com/example/fair_witness/fairwitness/attestation/DerReader" "bytes" "[B" (.ref ab) ∧ Fld Z h r0 "com/example/fair_witness/fairwitness/attestation/DerReader" "position" "I" (.int (5 : Int32)) ∧ Fld Z h r0 "com/example/fair_witness/fairwitness/attestation/DerReader" "end" "I" (.int (5 : Int32))
set_option maxRecDepth 65536 in
set_option maxHeartbeats 40000000 in
theorem rm11i2_1_5 (l : Launch) (Z : State) (a0 : Array Value) (hw : ∀ d ∈ tables_1, d.before a0 Z = true) (ws : List Jvm.Cond) (r0 : Addr) (ab : Addr) (kc : ClassId) (dd0 : Int32) (dd1 : Int32) (dd2 : Int32) (dd3 : Int32) (dd4 : Int32) (dd5 : Int32) (dd6 : Int32) (dd7 : Int32) (h0 : Heap) (n0 : Nat) (Z0 : n0 ≤ h0.size) (F_bytes_r0 : Fld Z h0 r0 "com/example/fair_witness/fairwitness/attestation/DerReader" "bytes" "[B" (.ref ab)) (F_position_r0 : Fld Z h0 r0 "com/example/fair_witness/fairwitness/attestation/DerReader" "position" "I" (.int (2 : Int32))) (F_end_r0 : Fld Z h0 r0 "com/example/fair_witness/fairwitness/attestation/DerReader" "end" "I" (.int (5 : Int32))) (E_r0 : Exa Z h0 r0 "com/example/fair_witness/fairwitness/attestation/DerReader") (g_r0 : n0 ≤ r0) (V_ab : Arv Z h0 ab kc .byte (8 : Int32) [(.int dd0), (.int dd1), (.int dd2), (.int dd3), (.int dd4), (.int dd5), (.int dd6), (.int dd7)] (.int (0 : Int32))) (E_ab : Exa Z h0 ab "[B") (ht : ¬ (((dd2 &&& (255 : Int32)) &&& (31 : Int32)) = (31 : Int32))) (hv3 : (dd3 &&& (255 : Int32)) = (1 : Int32)) :
    MetFree l (⟨"com/example/fair_witness/fairwitness/attestation/DerReader", "readElement", "()[B"⟩ : MethodName) (head1 (Jvm.Cond.code (⟨"com/example/fair_witness/fairwitness/attestation/DerReader", "readElement", "()[B"⟩ : MethodName) prog_10_method_8_code 5 (some (.array .byte)) :: ws) ({ frames := 3, cells := 3, slots := 35, locals := 48 } : Room)) (fun a U => a = #[(.ref r0)] ∧ Z.Warmed39 U.vm ∧ U.heap = h0) (fun _ _ _ _ _ => True) (fun _ U o U' => ∃ v L, o = .returned v ∧ Q11i2_1_5 Z r0 ab kc dd0 dd1 dd2 dd3 dd4 dd5 dd6 dd7 h0 n0 v U'.heap L ∧ ReturnedEndW U o U' L ({ frames := 3, cells := 3, slots := 35, locals := 48 } : Room).cells ({ frames := 3, cells := 3, slots := 35, locals := 48 } : Room).slots) := by
  refine MetFree.of_bodySF (plainFor_of_name pn1) hisR ?_
  intro p e s m args below meth c s₁ Bd hml0 hP hK
  obtain ⟨rfl, hZ, hh⟩ := hP
  have hx := Bd.exec
  have hby := Bd.bytes
  have hml : c.maxLocals = 5 := hml0
  have hown : s.vm.findClass "com/example/fair_witness/fairwitness/attestation/DerReader" = some m.cls := findClass_of_methodNamed Bd.named
  have hnm := (name_of_methodNamed Bd.named Bd.method).1
  have X0 : Stand p l e ({ frames := 3, cells := 3, slots := 35, locals := 48 } : Room) s m #[(.ref r0)] below meth c s₁ [] 0 0 := Stand.of_body Bd
  have e0 : s₁.heap = h0 := by rw [← hh, Bd.state]; rfl
  have N0 := Fr.nil n0
  have pre0 : ∀ t, Steps p.tables e below (s₁.setTop (mkF m 0 #[rv r0, .unset, .unset, .unset, .unset] [])) t → Steps p.tables e below (s₁.setTop (entryFrame m #[(.ref r0)] 5)) t := fun t k => castTop (ef_11i2_1_5 m r0) k
  have hS0 : s.Since s.vm h0.size := (State.WarmedH.refl s).since _
  have pre1 : ∀ t, Steps p.tables e below (s₁.setTop (mkF m 1 #[rv r0, .unset, .unset, .unset, .unset] [(.ref r0)])) t → Steps p.tables e below (s₁.setTop (entryFrame m #[(.ref r0)] 5)) t := by
    intro t kt
    refine pre0 _ ?_
    show Steps p.tables e below (s₁.setTop (mkF m 0 #[rv r0, .unset, .unset, .unset, .unset] [])) _
    refine XS.aloadN X0.here hx rfl (hb hby d11_0) rfl rfl ?_
    exact kt
  obtain ⟨T2, X2, e2, st2⟩ := getF X0 hx hZ hown (host := "") (Or.inl (hw _ (List.mem_of_getElem? (i := 19) rfl))) Via.refl e0 F_position_r0 (g := (mkF m 1 #[rv r0, .unset, .unset, .unset, .unset] [(.ref r0)])) rfl rfl (hb hby d11_1)
  have pre3 : ∀ t, Steps p.tables e below (T2.setTop (mkF m 5 #[rv r0, iv (2 : Int32), .unset, .unset, .unset] [])) t → Steps p.tables e below (s₁.setTop (entryFrame m #[(.ref r0)] 5)) t := by
    intro t kt
    refine pre1 _ ?_
    show Steps p.tables e below (s₁.setTop (mkF m 1 #[rv r0, .unset, .unset, .unset, .unset] [(.ref r0)])) _
    refine st2 _ ?_
    show Steps p.tables e below (T2.setTop (mkF m 4 #[rv r0, .unset, .unset, .unset, .unset] [(.int (2 : Int32))])) _
    refine XS.istoreN X2.here hx rfl (hb hby d11_4) rfl (l' := #[rv r0, iv (2 : Int32), .unset, .unset, .unset]) rfl ?_
    exact kt
  obtain ⟨b4, T4, h4, k4, X4, e4, E4, hS4, hk4, hZ, hown, st4⟩ := ldcS (s := s) (vm0 := s.vm) X2 hx hZ hown (hw _ (List.mem_of_getElem? (i := 62) rfl)) (own_wS hw) e2 hS0 (Nat.le_refl _) (g := (mkF m 5 #[rv r0, iv (2 : Int32), .unset, .unset, .unset] [])) rfl (hb hby d11_5) (n := 28) (by decide +kernel) (by decide) (by decide) (by decide)
  have K4 : Keep h0 h4 [r0] := (Keep.refl h0 [r0]).ext E4
  have pre5 : ∀ t, Steps p.tables e below (T4.setTop (mkF m 11 #[rv r0, iv (2 : Int32), rv b4, .unset, .unset] [(.ref b4), (.int (2 : Int32)), (.ref r0)])) t → Steps p.tables e below (s₁.setTop (entryFrame m #[(.ref r0)] 5)) t := by
    intro t kt
    refine pre3 _ ?_
    show Steps p.tables e below (T2.setTop (mkF m 5 #[rv r0, iv (2 : Int32), .unset, .unset, .unset] [])) _
    refine st4 _ ?_
    show Steps p.tables e below (T4.setTop (mkF m 7 #[rv r0, iv (2 : Int32), .unset, .unset, .unset] [(.ref b4)])) _
    refine XS.astoreN X4.here hx rfl (hb hby d11_7) rfl rfl (l' := #[rv r0, iv (2 : Int32), rv b4, .unset, .unset]) rfl ?_
    refine XS.aloadN X4.here hx rfl (hb hby d11_8) rfl rfl ?_
    refine XS.iloadN X4.here hx rfl (hb hby d11_9) rfl ?_
    refine XS.aloadN X4.here hx rfl (hb hby d11_10) rfl rfl ?_
    exact kt
  obtain ⟨cq6, q6, q6'⟩ := (E_r0.ext E4).cell
  obtain ⟨_, _, ⟨T6, L6, k6, n6⟩, -, X6, ⟨Lc6, hQ6, l6, y6, z6⟩, st6⟩ := X4.privateBack hx (y := (⟨"com/example/fair_witness/fairwitness/attestation/DerReader", "nextByte", "(ILjava/lang/String;)I"⟩ : MethodName)) hown (mvT hZ (hw _ (List.mem_of_getElem? (i := 39) rfl))) (mvT hZ (hw _ (List.mem_of_getElem? (i := 40) rfl))) (own_selp (y := (⟨"com/example/fair_witness/fairwitness/attestation/DerReader", "nextByte", "(ILjava/lang/String;)I"⟩ : MethodName)) (mvT hZ (hw _ (List.mem_of_getElem? (i := 6) rfl))) (Cond.privateMethod_at (mvP hZ (hw _ (List.mem_of_getElem? (i := 41) rfl)) (args := #[]))) (mvT hZ (hw _ (List.mem_of_getElem? (i := 40) rfl))) (by decide)) (Cond.privateMethod_at (mvP hZ (hw _ (List.mem_of_getElem? (i := 41) rfl)) (args := #[]))) (mvT hZ (hw _ (List.mem_of_getElem? (i := 42) rfl))) (by decide) (backOf (W := 0) (rm7i2 l Z a0 hw [] r0 (2 : Int32) b4 ab kc dd0 dd1 dd2 dd3 dd4 dd5 dd6 dd7 (5 : Int32) (dd2 &&& (255 : Int32)) h4 n0 (Nat.le_trans Z0 K4.1) (F_bytes_r0.ext E4) (F_position_r0.ext E4) (F_end_r0.ext E4) (E_r0.ext E4) g_r0 (V_ab.ext E4) (E_ab.ext E4) (by decide) rfl) hZ (hw _ (List.mem_of_getElem? (i := 42) rfl)) (hw _ (List.mem_of_getElem? (i := 7) rfl)) (by decide) (by decide)) (g := (mkF m 11 #[rv r0, iv (2 : Int32), rv b4, .unset, .unset] [(.ref b4), (.int (2 : Int32)), (.ref r0)])) rfl (by rw [hml]; rfl) (Steps.refl _) (a := r0) (by rw [e4]; exact q6) q6' (argsL := [(.int (2 : Int32)), (.ref b4)]) (rest := []) (lenOf pd3 rfl) rfl (by show 2 * 0 + _ ≤ _; exact Nat.le_of_eq rfl) (hb hby d11_11) (fun _ _ => ⟨rfl, e4, (by decide : 2 + 0 ≤ _), (by decide : 32 + 0 ≤ _)⟩)
  dsimp only [Pt.U, Pt.locs, Pt.cells, Pt.slots] at X6 l6 y6 z6 st6 hQ6
  subst l6 y6 z6
  obtain ⟨rfl, N6q, Kc6, Fb_6, Fp_6, Fe_6⟩ := hQ6
  have N6 := Fr.app N0 N6q
  have K6 : Keep h0 T6.heap [r0] := K4.trans Kc6 (allS (Or.inl (List.mem_of_getElem? (i := 0) rfl)) all0)
  have pre7 : ∀ t, Steps p.tables e below (T6.setTop (mkF m 19 #[rv r0, iv (2 : Int32), rv b4, iv (dd2 &&& (255 : Int32)), .unset] [(.ref b4), (.int (dd2 &&& (255 : Int32))), (.int (2 : Int32)), (.ref r0)])) t → Steps p.tables e below (s₁.setTop (entryFrame m #[(.ref r0)] 5)) t := by
    intro t kt
    refine pre5 _ ?_
    show Steps p.tables e below (T4.setTop (mkF m 11 #[rv r0, iv (2 : Int32), rv b4, .unset, .unset] [(.ref b4), (.int (2 : Int32)), (.ref r0)])) _
    refine st6.trans ?_
    show Steps p.tables e below (T6.setTop (mkF m 14 #[rv r0, iv (2 : Int32), rv b4, .unset, .unset] [(.int (dd2 &&& (255 : Int32)))])) _
    refine XS.istoreN X6.here hx rfl (hb hby d11_14) rfl (l' := #[rv r0, iv (2 : Int32), rv b4, iv (dd2 &&& (255 : Int32)), .unset]) rfl ?_
    refine XS.aloadN X6.here hx rfl (hb hby d11_15) rfl rfl ?_
    refine XS.iloadN X6.here hx rfl (hb hby d11_16) rfl ?_
    refine XS.iloadN X6.here hx rfl (hb hby d11_17) rfl ?_
    refine XS.aloadN X6.here hx rfl (hb hby d11_18) rfl rfl ?_
    exact kt
  have f8 := ((V_ab.ext E4).keep Kc6 (ninS (Exa.ne ((E_ab.ext E4).keep Kc6) ((E_r0.ext E4).keep Kc6) (by decide)) nin0))
  have f9 := ((E_ab.ext E4).keep Kc6)
  have f10 := ((E_r0.ext E4).keep Kc6)
  obtain ⟨cq11, q11, q11'⟩ := f10.cell
  obtain ⟨_, _, ⟨T11, L11, k11, n11⟩, -, X11, ⟨Lc11, hQ11, l11, y11, z11⟩, st11⟩ := X6.privateBack hx (y := (⟨"com/example/fair_witness/fairwitness/attestation/DerReader", "readTagNumber", "(IILjava/lang/String;)I"⟩ : MethodName)) hown (mvT hZ (hw _ (List.mem_of_getElem? (i := 63) rfl))) (mvT hZ (hw _ (List.mem_of_getElem? (i := 64) rfl))) (own_selp (y := (⟨"com/example/fair_witness/fairwitness/attestation/DerReader", "readTagNumber", "(IILjava/lang/String;)I"⟩ : MethodName)) (mvT hZ (hw _ (List.mem_of_getElem? (i := 6) rfl))) (Cond.privateMethod_at (mvP hZ (hw _ (List.mem_of_getElem? (i := 65) rfl)) (args := #[]))) (mvT hZ (hw _ (List.mem_of_getElem? (i := 64) rfl))) (by decide)) (Cond.privateMethod_at (mvP hZ (hw _ (List.mem_of_getElem? (i := 65) rfl)) (args := #[]))) (mvT hZ (hw _ (List.mem_of_getElem? (i := 66) rfl))) (by decide) (backOf (W := 0) (rm12 l Z a0 hw [] r0 (2 : Int32) (dd2 &&& (255 : Int32)) b4 T6.heap n0 (Nat.le_trans Z0 K6.1) ht) hZ (hw _ (List.mem_of_getElem? (i := 66) rfl)) (hw _ (List.mem_of_getElem? (i := 7) rfl)) (by decide) (by decide)) (g := (mkF m 19 #[rv r0, iv (2 : Int32), rv b4, iv (dd2 &&& (255 : Int32)), .unset] [(.ref b4), (.int (dd2 &&& (255 : Int32))), (.int (2 : Int32)), (.ref r0)])) rfl (by rw [hml]; rfl) (Steps.refl _) (a := r0) q11 q11' (argsL := [(.int (2 : Int32)), (.int (dd2 &&& (255 : Int32))), (.ref b4)]) (rest := []) (lenOf pd10 rfl) rfl (by show 2 * 0 + _ ≤ _; exact Nat.le_of_eq rfl) (hb hby d11_19) (fun _ _ => ⟨rfl, rfl, (by decide : 2 + 0 ≤ _), (by decide : 32 + 0 ≤ _)⟩)
  dsimp only [Pt.U, Pt.locs, Pt.cells, Pt.slots] at X11 l11 y11 z11 st11 hQ11
  subst l11 y11 z11
  obtain ⟨rfl, N11q, hh11⟩ := hQ11
  have N11 := Fr.app N6 N11q
  have pre12 : ∀ t, Steps p.tables e below (T11.setTop (mkF m 26 #[rv r0, iv (2 : Int32), rv b4, iv (dd2 &&& (255 : Int32)), .unset] [(.ref b4), (.int (2 : Int32)), (.ref r0)])) t → Steps p.tables e below (s₁.setTop (entryFrame m #[(.ref r0)] 5)) t := by
    intro t kt
    refine pre7 _ ?_
    show Steps p.tables e below (T6.setTop (mkF m 19 #[rv r0, iv (2 : Int32), rv b4, iv (dd2 &&& (255 : Int32)), .unset] [(.ref b4), (.int (dd2 &&& (255 : Int32))), (.int (2 : Int32)), (.ref r0)])) _
    refine st11.trans ?_
    show Steps p.tables e below (T11.setTop (mkF m 22 #[rv r0, iv (2 : Int32), rv b4, iv (dd2 &&& (255 : Int32)), .unset] [(.int ((dd2 &&& (255 : Int32)) &&& (31 : Int32)))])) _
    refine XS.pop X11.here hx rfl (hb hby d11_22) rfl rfl ?_
    refine XS.aloadN X11.here hx rfl (hb hby d11_23) rfl rfl ?_
    refine XS.iloadN X11.here hx rfl (hb hby d11_24) rfl ?_
    refine XS.aloadN X11.here hx rfl (hb hby d11_25) rfl rfl ?_
    exact kt
  obtain ⟨cq13, q13, q13'⟩ := f10.cell
  obtain ⟨_, _, ⟨T13, L13, k13, n13⟩, -, X13, ⟨Lc13, hQ13, l13, y13, z13⟩, st13⟩ := X11.privateBack hx (y := (⟨"com/example/fair_witness/fairwitness/attestation/DerReader", "readLength", "(ILjava/lang/String;)I"⟩ : MethodName)) hown (mvT hZ (hw _ (List.mem_of_getElem? (i := 43) rfl))) (mvT hZ (hw _ (List.mem_of_getElem? (i := 44) rfl))) (own_selp (y := (⟨"com/example/fair_witness/fairwitness/attestation/DerReader", "readLength", "(ILjava/lang/String;)I"⟩ : MethodName)) (mvT hZ (hw _ (List.mem_of_getElem? (i := 6) rfl))) (Cond.privateMethod_at (mvP hZ (hw _ (List.mem_of_getElem? (i := 45) rfl)) (args := #[]))) (mvT hZ (hw _ (List.mem_of_getElem? (i := 44) rfl))) (by decide)) (Cond.privateMethod_at (mvP hZ (hw _ (List.mem_of_getElem? (i := 45) rfl)) (args := #[]))) (mvT hZ (hw _ (List.mem_of_getElem? (i := 46) rfl))) (by decide) (backOf (W := 0) (rm8i3 l Z a0 hw [] r0 (2 : Int32) b4 ab kc dd0 dd1 dd2 dd3 dd4 dd5 dd6 dd7 (5 : Int32) (1 : Int32) T6.heap n0 (Nat.le_trans Z0 K6.1) Fb_6 Fp_6 Fe_6 f10 g_r0 f8 f9 (by decide) hv3 (by decide) (by decide) (by decide)) hZ (hw _ (List.mem_of_getElem? (i := 46) rfl)) (hw _ (List.mem_of_getElem? (i := 7) rfl)) (by decide) (by decide)) (g := (mkF m 26 #[rv r0, iv (2 : Int32), rv b4, iv (dd2 &&& (255 : Int32)), .unset] [(.ref b4), (.int (2 : Int32)), (.ref r0)])) rfl (by rw [hml]; rfl) (Steps.refl _) (a := r0) (by rw [hh11]; exact q13) q13' (argsL := [(.int (2 : Int32)), (.ref b4)]) (rest := []) (lenOf pd3 rfl) rfl (by show 2 * 0 + _ ≤ _; exact Nat.le_of_eq rfl) (hb hby d11_26) (fun _ _ => ⟨rfl, hh11, (by decide : 2 + 0 ≤ _), (by decide : 32 + 0 ≤ _)⟩)
  dsimp only [Pt.U, Pt.locs, Pt.cells, Pt.slots] at X13 l13 y13 z13 st13 hQ13
  subst l13 y13 z13
  obtain ⟨rfl, N13q, Kc13, Fb_13, Fp_13, Fe_13⟩ := hQ13
  have N13 := Fr.app N11 N13q
  have K13 : Keep h0 T13.heap [r0] := K6.trans Kc13 (allS (Or.inl (List.mem_of_getElem? (i := 0) rfl)) all0)
  have pre14 : ∀ t, Steps p.tables e below (T13.setTop (mkF m 33 #[rv r0, iv (2 : Int32), rv b4, iv (dd2 &&& (255 : Int32)), iv (1 : Int32)] [(.ref r0), (.ref r0)])) t → Steps p.tables e below (s₁.setTop (entryFrame m #[(.ref r0)] 5)) t := by
    intro t kt
    refine pre12 _ ?_
    show Steps p.tables e below (T11.setTop (mkF m 26 #[rv r0, iv (2 : Int32), rv b4, iv (dd2 &&& (255 : Int32)), .unset] [(.ref b4), (.int (2 : Int32)), (.ref r0)])) _
    refine st13.trans ?_
    show Steps p.tables e below (T13.setTop (mkF m 29 #[rv r0, iv (2 : Int32), rv b4, iv (dd2 &&& (255 : Int32)), .unset] [(.int (1 : Int32))])) _
    refine XS.istore X13.here hx rfl (hb hby d11_29) rfl (l' := #[rv r0, iv (2 : Int32), rv b4, iv (dd2 &&& (255 : Int32)), iv (1 : Int32)]) rfl ?_
    refine XS.aloadN X13.here hx rfl (hb hby d11_31) rfl rfl ?_
    refine XS.dup X13.here hx rfl (hb hby d11_32) rfl rfl ?_
    exact kt
  obtain ⟨T15, X15, e15, st15⟩ := getF X13 hx hZ hown (host := "") (Or.inl (hw _ (List.mem_of_getElem? (i := 19) rfl))) Via.refl rfl Fp_13 (g := (mkF m 33 #[rv r0, iv (2 : Int32), rv b4, iv (dd2 &&& (255 : Int32)), iv (1 : Int32)] [(.ref r0), (.ref r0)])) rfl rfl (hb hby d11_33)
  have pre16 : ∀ t, Steps p.tables e below (T15.setTop (mkF m 39 #[rv r0, iv (2 : Int32), rv b4, iv (dd2 &&& (255 : Int32)), iv (1 : Int32)] [(.int (5 : Int32)), (.ref r0)])) t → Steps p.tables e below (s₁.setTop (entryFrame m #[(.ref r0)] 5)) t := by
    intro t kt
    refine pre14 _ ?_
    show Steps p.tables e below (T13.setTop (mkF m 33 #[rv r0, iv (2 : Int32), rv b4, iv (dd2 &&& (255 : Int32)), iv (1 : Int32)] [(.ref r0), (.ref r0)])) _
    refine st15 _ ?_
    show Steps p.tables e below (T15.setTop (mkF m 36 #[rv r0, iv (2 : Int32), rv b4, iv (dd2 &&& (255 : Int32)), iv (1 : Int32)] [(.int (4 : Int32)), (.ref r0)])) _
    refine XS.iload X15.here hx rfl (hb hby d11_36) rfl ?_
    refine XS.iadd X15.here hx rfl (hb hby d11_38) rfl ?_
    show Steps p.tables e below (T15.setTop (mkF m 39 #[rv r0, iv (2 : Int32), rv b4, iv (dd2 &&& (255 : Int32)), iv (1 : Int32)] [(.int ((4 : Int32) + (1 : Int32))), (.ref r0)])) _
    rw [show ((4 : Int32) + (1 : Int32)) = (5 : Int32) from (by decide)]
    exact kt
  obtain ⟨T17, h17, X17, e17, W17, st17⟩ := putF X15 hx hZ hown (host := "") (Or.inl (hw _ (List.mem_of_getElem? (i := 19) rfl))) Via.refl e15 Fp_13 (f10.keep Kc13) (Or.inl (hw _ (List.mem_of_getElem? (i := 20) rfl))) (hw _ (List.mem_of_getElem? (i := 6) rfl)) (ty := .int) (by decide) rfl rfl (g := (mkF m 39 #[rv r0, iv (2 : Int32), rv b4, iv (dd2 &&& (255 : Int32)), iv (1 : Int32)] [(.int (5 : Int32)), (.ref r0)])) rfl rfl (hb hby d11_39)
  have Fw17 : Fld Z h17 r0 "com/example/fair_witness/fairwitness/attestation/DerReader" "position" "I" (.int (5 : Int32)) := Fp_13.same W17
  have K17 : Keep h0 h17 [r0] := K13.wr W17 (Or.inl (List.mem_of_getElem? (i := 0) rfl))
  have N17 := Fr.snoc X17 N13 g_r0
  have pre18 : ∀ t, Steps p.tables e below (T17.setTop (mkF m 43 #[rv r0, iv (2 : Int32), rv b4, iv (dd2 &&& (255 : Int32)), iv (1 : Int32)] [(.ref r0)])) t → Steps p.tables e below (s₁.setTop (entryFrame m #[(.ref r0)] 5)) t := by
    intro t kt
    refine pre16 _ ?_
    show Steps p.tables e below (T15.setTop (mkF m 39 #[rv r0, iv (2 : Int32), rv b4, iv (dd2 &&& (255 : Int32)), iv (1 : Int32)] [(.int (5 : Int32)), (.ref r0)])) _
    refine st17 _ ?_
    show Steps p.tables e below (T17.setTop (mkF m 42 #[rv r0, iv (2 : Int32), rv b4, iv (dd2 &&& (255 : Int32)), iv (1 : Int32)] [])) _
    refine XS.aloadN X17.here hx rfl (hb hby d11_42) rfl rfl ?_
    exact kt
  obtain ⟨T19, X19, e19, st19⟩ := getF X17 hx hZ hown (host := "") (Or.inl (hw _ (List.mem_of_getElem? (i := 17) rfl))) Via.refl e17 (Fb_13.other W17 (Or.inr (slot_ne (Or.inr (hw _ (List.mem_of_getElem? (i := 18) rfl))) (Or.inl (hw _ (List.mem_of_getElem? (i := 20) rfl))) (by decide) (t := (.array .byte)) (t' := .int) (by decide) (by decide)))) (g := (mkF m 43 #[rv r0, iv (2 : Int32), rv b4, iv (dd2 &&& (255 : Int32)), iv (1 : Int32)] [(.ref r0)])) rfl rfl (hb hby d11_43)
  have pre20 : ∀ t, Steps p.tables e below (T19.setTop (mkF m 48 #[rv r0, iv (2 : Int32), rv b4, iv (dd2 &&& (255 : Int32)), iv (1 : Int32)] [(.ref r0), (.int (2 : Int32)), (.ref ab)])) t → Steps p.tables e below (s₁.setTop (entryFrame m #[(.ref r0)] 5)) t := by
    intro t kt
    refine pre18 _ ?_
    show Steps p.tables e below (T17.setTop (mkF m 43 #[rv r0, iv (2 : Int32), rv b4, iv (dd2 &&& (255 : Int32)), iv (1 : Int32)] [(.ref r0)])) _
    refine st19 _ ?_
    show Steps p.tables e below (T19.setTop (mkF m 46 #[rv r0, iv (2 : Int32), rv b4, iv (dd2 &&& (255 : Int32)), iv (1 : Int32)] [(.ref ab)])) _
    refine XS.iloadN X19.here hx rfl (hb hby d11_46) rfl ?_
    refine XS.aloadN X19.here hx rfl (hb hby d11_47) rfl rfl ?_
    exact kt
  obtain ⟨T21, X21, e21, st21⟩ := getF X19 hx hZ hown (host := "") (Or.inl (hw _ (List.mem_of_getElem? (i := 19) rfl))) Via.refl e19 Fw17 (g := (mkF m 48 #[rv r0, iv (2 : Int32), rv b4, iv (dd2 &&& (255 : Int32)), iv (1 : Int32)] [(.ref r0), (.int (2 : Int32)), (.ref ab)])) rfl rfl (hb hby d11_48)
  have pre22 : ∀ t, Steps p.tables e below (T21.setTop (mkF m 51 #[rv r0, iv (2 : Int32), rv b4, iv (dd2 &&& (255 : Int32)), iv (1 : Int32)] [(.int (5 : Int32)), (.int (2 : Int32)), (.ref ab)])) t → Steps p.tables e below (s₁.setTop (entryFrame m #[(.ref r0)] 5)) t := by
    intro t kt
    refine pre20 _ ?_
    show Steps p.tables e below (T19.setTop (mkF m 48 #[rv r0, iv (2 : Int32), rv b4, iv (dd2 &&& (255 : Int32)), iv (1 : Int32)] [(.ref r0), (.int (2 : Int32)), (.ref ab)])) _
    refine st21 _ ?_
    exact kt
  have f23 := ((f8.keep Kc13 (ninS (Exa.ne ((f9.keep Kc13).wr W17) ((f10.keep Kc13).wr W17) (by decide)) nin0)).other W17 (Exa.ne ((f9.keep Kc13).wr W17) ((f10.keep Kc13).wr W17) (by decide)))
  have f24 := ((f9.keep Kc13).wr W17)
  have f25 := ((f10.keep Kc13).wr W17)
  obtain ⟨_, _, ⟨T26, L26, k26, n26⟩, -, X26, ⟨Lc26, hQ26, l26, y26, z26⟩, st26⟩ := Jvm.LawKit.callS X21 hx (y := (⟨"java/util/Arrays", "copyOfRange", "([BII)[B"⟩ : MethodName)) hown (mvT hZ (hw _ (List.mem_of_getElem? (i := 67) rfl))) (mvT hZ (hw _ (List.mem_of_getElem? (i := 68) rfl))) (mvT hZ (hw _ (List.mem_of_getElem? (i := 69) rfl))) (mvT hZ (hw _ (List.mem_of_getElem? (i := 70) rfl))) (by decide) (backOf (W := 0) (rm13i2_5 l Z a0 hw [] ab kc dd0 dd1 dd2 dd3 dd4 dd5 dd6 dd7 h17 n0 (Nat.le_trans Z0 K17.1) f23) hZ (hw _ (List.mem_of_getElem? (i := 70) rfl)) (hw _ (List.mem_of_getElem? (i := 69) rfl)) (by decide) (by decide)) (g := (mkF m 51 #[rv r0, iv (2 : Int32), rv b4, iv (dd2 &&& (255 : Int32)), iv (1 : Int32)] [(.int (5 : Int32)), (.int (2 : Int32)), (.ref ab)])) rfl (by rw [hml]; rfl) (argsL := [(.ref ab), (.int (2 : Int32)), (.int (5 : Int32))]) (rest := []) (lenOf pd9 rfl) rfl (by show 2 * 0 + _ ≤ _; exact Nat.le_of_eq rfl) (hb hby d11_51) (fun _ _ => ⟨rfl, e21, (by decide : 2 + 1 ≤ _), (by decide : 32 + 3 ≤ _)⟩)
  dsimp only [Pt.U, Pt.locs, Pt.cells, Pt.slots] at X26 l26 y26 z26 st26 hQ26
  subst l26 y26 z26
  obtain ⟨y26, rfl, N26q, Kc26⟩ := hQ26
  have N26 := Fr.app N17 N26q
  have K26 : Keep h0 T26.heap [r0] := K17.trans Kc26 all0
  have pre27 : ∀ t, Steps p.tables e below (T26.setTop (mkF m 54 #[rv r0, iv (2 : Int32), rv b4, iv (dd2 &&& (255 : Int32)), iv (1 : Int32)] [(.ref y26)])) t → Steps p.tables e below (s₁.setTop (entryFrame m #[(.ref r0)] 5)) t := by
    intro t kt
    refine pre22 _ ?_
    show Steps p.tables e below (T21.setTop (mkF m 51 #[rv r0, iv (2 : Int32), rv b4, iv (dd2 &&& (255 : Int32)), iv (1 : Int32)] [(.int (5 : Int32)), (.int (2 : Int32)), (.ref ab)])) _
    refine st26 _ ?_
    exact kt
  obtain ⟨fs, hr, hrun, hended, hRW⟩ := Jvm.Stand.leaveW (s := s) (vm₁ := T4.vm) X26 hS4 (Nat.le_trans (Nat.le_trans (Nat.le_trans (Nat.le_trans hk4 Kc6.1) Kc13.1) (Nat.le_of_eq W17.size.symm)) Kc26.1) (v := some (.ref y26)) (fun h => by rw [Bd.returns] at h; cases h)
  refine ⟨_, _, pre27 _ ?_, hrun, hended, _, _, rfl, ?_, hRW.1, hRW.2.1, hRW.2.2.1, hRW.2.2.2.mono (by decide) (by decide)⟩
  · show Steps p.tables e below (T26.setTop (mkF m 54 #[rv r0, iv (2 : Int32), rv b4, iv (dd2 &&& (255 : Int32)), iv (1 : Int32)] [(.ref y26)])) _
    jvm_step X26.here [X26.here.top, hx, (hb hby d11_54), X26.method', Bd.returns, Value.isRef, FieldType.isReference]
    first | (intro acts; rw [hr _ acts rfl rfl rfl]) | rw [hr _ _ rfl rfl rfl]
    exact Steps.refl _
  · show Q11i2_1_5 Z r0 ab kc dd0 dd1 dd2 dd3 dd4 dd5 dd6 dd7 h0 n0 _ T26.heap _
    exact ⟨y26, rfl, N26, K26, ((Fb_13.other W17 (Or.inr (slot_ne (Or.inr (hw _ (List.mem_of_getElem? (i := 18) rfl))) (Or.inl (hw _ (List.mem_of_getElem? (i := 20) rfl))) (by decide) (t := (.array .byte)) (t' := .int) (by decide) (by decide)))).keep Kc26 nin0), (Fw17.keep Kc26 nin0), ((Fe_13.other W17 (Or.inr (slot_ne (Or.inr (hw _ (List.mem_of_getElem? (i := 22) rfl))) (Or.inl (hw _ (List.mem_of_getElem? (i := 20) rfl))) (by decide) (t := .int) (t' := .int) (by decide) (by decide)))).keep Kc26 nin0)⟩

theorem ef_11i5_1_8 (m : MethodId) (x0 : Addr) : entryFrame m #[(.ref x0)] 5 = mkF m 0 #[.val (.ref x0), .unset, .unset, .unset, .unset] [] := by first | (simp [entryFrame, mkF, argsToLocals, Value.category]; done) | rfl
def Q11i5_1_8 (Z : State) (r0 : Addr) (ab : Addr) (kc : ClassId) (dd0 : Int32) (dd1 : Int32) (dd2 : Int32) (dd3 : Int32) (dd4 : Int32) (dd5 : Int32) (dd6 : Int32) (dd7 : Int32) (h0 : Heap) (n0 : Nat) (v : Option Value) (h : Heap) (L : List Loc) : Prop := ∃ y, v = some (.ref y) ∧ Fr n0 L ∧ Keep h0 h [r0] ∧ Fld Z h r0 "com/example/fair_witness/fairwitness/attestation/DerReader" "bytes" "[B" (.ref ab) ∧ Fld Z h r0 "com/example/fair_witness/fairwitness/attestation/DerReader" "position" "I" (.int (8 : Int32)) ∧ Fld Z h r0 "com/example/fair_witness/fairwitness/attestation/DerReader" "end" "I" (.int (8 : Int32))
set_option maxRecDepth 65536 in
set_option maxHeartbeats 40000000 in
theorem rm11i5_1_8 (l : Launch) (Z : State) (a0 : Array Value) (hw : ∀ d ∈ tables_1, d.before a0 Z = true) (ws : List Jvm.Cond) (r0 : Addr) (ab : Addr) (kc : ClassId) (dd0 : Int32) (dd1 : Int32) (dd2 : Int32) (dd3 : Int32) (dd4 : Int32) (dd5 : Int32) (dd6 : Int32) (dd7 : Int32) (h0 : Heap) (n0 : Nat) (Z0 : n0 ≤ h0.size) (F_bytes_r0 : Fld Z h0 r0 "com/example/fair_witness/fairwitness/attestation/DerReader" "bytes" "[B" (.ref ab)) (F_position_r0 : Fld Z h0 r0 "com/example/fair_witness/fairwitness/attestation/DerReader" "position" "I" (.int (5 : Int32))) (F_end_r0 : Fld Z h0 r0 "com/example/fair_witness/fairwitness/attestation/DerReader" "end" "I" (.int (8 : Int32))) (E_r0 : Exa Z h0 r0 "com/example/fair_witness/fairwitness/attestation/DerReader") (g_r0 : n0 ≤ r0) (V_ab : Arv Z h0 ab kc .byte (8 : Int32) [(.int dd0), (.int dd1), (.int dd2), (.int dd3), (.int dd4), (.int dd5), (.int dd6), (.int dd7)] (.int (0 : Int32))) (E_ab : Exa Z h0 ab "[B") (ht : ¬ (((dd5 &&& (255 : Int32)) &&& (31 : Int32)) = (31 : Int32))) (hv6 : (dd6 &&& (255 : Int32)) = (1 : Int32)) :
    MetFree l (⟨"com/example/fair_witness/fairwitness/attestation/DerReader", "readElement", "()[B"⟩ : MethodName) (head1 (Jvm.Cond.code (⟨"com/example/fair_witness/fairwitness/attestation/DerReader", "readElement", "()[B"⟩ : MethodName) prog_10_method_8_code 5 (some (.array .byte)) :: ws) ({ frames := 3, cells := 3, slots := 35, locals := 48 } : Room)) (fun a U => a = #[(.ref r0)] ∧ Z.Warmed39 U.vm ∧ U.heap = h0) (fun _ _ _ _ _ => True) (fun _ U o U' => ∃ v L, o = .returned v ∧ Q11i5_1_8 Z r0 ab kc dd0 dd1 dd2 dd3 dd4 dd5 dd6 dd7 h0 n0 v U'.heap L ∧ ReturnedEndW U o U' L ({ frames := 3, cells := 3, slots := 35, locals := 48 } : Room).cells ({ frames := 3, cells := 3, slots := 35, locals := 48 } : Room).slots) := by
  refine MetFree.of_bodySF (plainFor_of_name pn1) hisR ?_
  intro p e s m args below meth c s₁ Bd hml0 hP hK
  obtain ⟨rfl, hZ, hh⟩ := hP
  have hx := Bd.exec
  have hby := Bd.bytes
  have hml : c.maxLocals = 5 := hml0
  have hown : s.vm.findClass "com/example/fair_witness/fairwitness/attestation/DerReader" = some m.cls := findClass_of_methodNamed Bd.named
  have hnm := (name_of_methodNamed Bd.named Bd.method).1
  have X0 : Stand p l e ({ frames := 3, cells := 3, slots := 35, locals := 48 } : Room) s m #[(.ref r0)] below meth c s₁ [] 0 0 := Stand.of_body Bd
  have e0 : s₁.heap = h0 := by rw [← hh, Bd.state]; rfl
  have N0 := Fr.nil n0
  have pre0 : ∀ t, Steps p.tables e below (s₁.setTop (mkF m 0 #[rv r0, .unset, .unset, .unset, .unset] [])) t → Steps p.tables e below (s₁.setTop (entryFrame m #[(.ref r0)] 5)) t := fun t k => castTop (ef_11i5_1_8 m r0) k
  have hS0 : s.Since s.vm h0.size := (State.WarmedH.refl s).since _
  have pre1 : ∀ t, Steps p.tables e below (s₁.setTop (mkF m 1 #[rv r0, .unset, .unset, .unset, .unset] [(.ref r0)])) t → Steps p.tables e below (s₁.setTop (entryFrame m #[(.ref r0)] 5)) t := by
    intro t kt
    refine pre0 _ ?_
    show Steps p.tables e below (s₁.setTop (mkF m 0 #[rv r0, .unset, .unset, .unset, .unset] [])) _
    refine XS.aloadN X0.here hx rfl (hb hby d11_0) rfl rfl ?_
    exact kt
  obtain ⟨T2, X2, e2, st2⟩ := getF X0 hx hZ hown (host := "") (Or.inl (hw _ (List.mem_of_getElem? (i := 19) rfl))) Via.refl e0 F_position_r0 (g := (mkF m 1 #[rv r0, .unset, .unset, .unset, .unset] [(.ref r0)])) rfl rfl (hb hby d11_1)
  have pre3 : ∀ t, Steps p.tables e below (T2.setTop (mkF m 5 #[rv r0, iv (5 : Int32), .unset, .unset, .unset] [])) t → Steps p.tables e below (s₁.setTop (entryFrame m #[(.ref r0)] 5)) t := by
    intro t kt
    refine pre1 _ ?_
    show Steps p.tables e below (s₁.setTop (mkF m 1 #[rv r0, .unset, .unset, .unset, .unset] [(.ref r0)])) _
    refine st2 _ ?_
    show Steps p.tables e below (T2.setTop (mkF m 4 #[rv r0, .unset, .unset, .unset, .unset] [(.int (5 : Int32))])) _
    refine XS.istoreN X2.here hx rfl (hb hby d11_4) rfl (l' := #[rv r0, iv (5 : Int32), .unset, .unset, .unset]) rfl ?_
    exact kt
  obtain ⟨b4, T4, h4, k4, X4, e4, E4, hS4, hk4, hZ, hown, st4⟩ := ldcS (s := s) (vm0 := s.vm) X2 hx hZ hown (hw _ (List.mem_of_getElem? (i := 62) rfl)) (own_wS hw) e2 hS0 (Nat.le_refl _) (g := (mkF m 5 #[rv r0, iv (5 : Int32), .unset, .unset, .unset] [])) rfl (hb hby d11_5) (n := 28) (by decide +kernel) (by decide) (by decide) (by decide)
  have K4 : Keep h0 h4 [r0] := (Keep.refl h0 [r0]).ext E4
  have pre5 : ∀ t, Steps p.tables e below (T4.setTop (mkF m 11 #[rv r0, iv (5 : Int32), rv b4, .unset, .unset] [(.ref b4), (.int (5 : Int32)), (.ref r0)])) t → Steps p.tables e below (s₁.setTop (entryFrame m #[(.ref r0)] 5)) t := by
    intro t kt
    refine pre3 _ ?_
    show Steps p.tables e below (T2.setTop (mkF m 5 #[rv r0, iv (5 : Int32), .unset, .unset, .unset] [])) _
    refine st4 _ ?_
    show Steps p.tables e below (T4.setTop (mkF m 7 #[rv r0, iv (5 : Int32), .unset, .unset, .unset] [(.ref b4)])) _
    refine XS.astoreN X4.here hx rfl (hb hby d11_7) rfl rfl (l' := #[rv r0, iv (5 : Int32), rv b4, .unset, .unset]) rfl ?_
    refine XS.aloadN X4.here hx rfl (hb hby d11_8) rfl rfl ?_
    refine XS.iloadN X4.here hx rfl (hb hby d11_9) rfl ?_
    refine XS.aloadN X4.here hx rfl (hb hby d11_10) rfl rfl ?_
    exact kt
  obtain ⟨cq6, q6, q6'⟩ := (E_r0.ext E4).cell
  obtain ⟨_, _, ⟨T6, L6, k6, n6⟩, -, X6, ⟨Lc6, hQ6, l6, y6, z6⟩, st6⟩ := X4.privateBack hx (y := (⟨"com/example/fair_witness/fairwitness/attestation/DerReader", "nextByte", "(ILjava/lang/String;)I"⟩ : MethodName)) hown (mvT hZ (hw _ (List.mem_of_getElem? (i := 39) rfl))) (mvT hZ (hw _ (List.mem_of_getElem? (i := 40) rfl))) (own_selp (y := (⟨"com/example/fair_witness/fairwitness/attestation/DerReader", "nextByte", "(ILjava/lang/String;)I"⟩ : MethodName)) (mvT hZ (hw _ (List.mem_of_getElem? (i := 6) rfl))) (Cond.privateMethod_at (mvP hZ (hw _ (List.mem_of_getElem? (i := 41) rfl)) (args := #[]))) (mvT hZ (hw _ (List.mem_of_getElem? (i := 40) rfl))) (by decide)) (Cond.privateMethod_at (mvP hZ (hw _ (List.mem_of_getElem? (i := 41) rfl)) (args := #[]))) (mvT hZ (hw _ (List.mem_of_getElem? (i := 42) rfl))) (by decide) (backOf (W := 0) (rm7i5 l Z a0 hw [] r0 (5 : Int32) b4 ab kc dd0 dd1 dd2 dd3 dd4 dd5 dd6 dd7 (8 : Int32) (dd5 &&& (255 : Int32)) h4 n0 (Nat.le_trans Z0 K4.1) (F_bytes_r0.ext E4) (F_position_r0.ext E4) (F_end_r0.ext E4) (E_r0.ext E4) g_r0 (V_ab.ext E4) (E_ab.ext E4) (by decide) rfl) hZ (hw _ (List.mem_of_getElem? (i := 42) rfl)) (hw _ (List.mem_of_getElem? (i := 7) rfl)) (by decide) (by decide)) (g := (mkF m 11 #[rv r0, iv (5 : Int32), rv b4, .unset, .unset] [(.ref b4), (.int (5 : Int32)), (.ref r0)])) rfl (by rw [hml]; rfl) (Steps.refl _) (a := r0) (by rw [e4]; exact q6) q6' (argsL := [(.int (5 : Int32)), (.ref b4)]) (rest := []) (lenOf pd3 rfl) rfl (by show 2 * 0 + _ ≤ _; exact Nat.le_of_eq rfl) (hb hby d11_11) (fun _ _ => ⟨rfl, e4, (by decide : 2 + 0 ≤ _), (by decide : 32 + 0 ≤ _)⟩)
  dsimp only [Pt.U, Pt.locs, Pt.cells, Pt.slots] at X6 l6 y6 z6 st6 hQ6
  subst l6 y6 z6
  obtain ⟨rfl, N6q, Kc6, Fb_6, Fp_6, Fe_6⟩ := hQ6
  have N6 := Fr.app N0 N6q
  have K6 : Keep h0 T6.heap [r0] := K4.trans Kc6 (allS (Or.inl (List.mem_of_getElem? (i := 0) rfl)) all0)
  have pre7 : ∀ t, Steps p.tables e below (T6.setTop (mkF m 19 #[rv r0, iv (5 : Int32), rv b4, iv (dd5 &&& (255 : Int32)), .unset] [(.ref b4), (.int (dd5 &&& (255 : Int32))), (.int (5 : Int32)), (.ref r0)])) t → Steps p.tables e below (s₁.setTop (entryFrame m #[(.ref r0)] 5)) t := by
    intro t kt
    refine pre5 _ ?_
    show Steps p.tables e below (T4.setTop (mkF m 11 #[rv r0, iv (5 : Int32), rv b4, .unset, .unset] [(.ref b4), (.int (5 : Int32)), (.ref r0)])) _
    refine st6.trans ?_
    show Steps p.tables e below (T6.setTop (mkF m 14 #[rv r0, iv (5 : Int32), rv b4, .unset, .unset] [(.int (dd5 &&& (255 : Int32)))])) _
    refine XS.istoreN X6.here hx rfl (hb hby d11_14) rfl (l' := #[rv r0, iv (5 : Int32), rv b4, iv (dd5 &&& (255 : Int32)), .unset]) rfl ?_
    refine XS.aloadN X6.here hx rfl (hb hby d11_15) rfl rfl ?_
    refine XS.iloadN X6.here hx rfl (hb hby d11_16) rfl ?_
    refine XS.iloadN X6.here hx rfl (hb hby d11_17) rfl ?_
    refine XS.aloadN X6.here hx rfl (hb hby d11_18) rfl rfl ?_
    exact kt
  have f8 := ((V_ab.ext E4).keep Kc6 (ninS (Exa.ne ((E_ab.ext E4).keep Kc6) ((E_r0.ext E4).keep Kc6) (by decide)) nin0))
  have f9 := ((E_ab.ext E4).keep Kc6)
  have f10 := ((E_r0.ext E4).keep Kc6)
  obtain ⟨cq11, q11, q11'⟩ := f10.cell
  obtain ⟨_, _, ⟨T11, L11, k11, n11⟩, -, X11, ⟨Lc11, hQ11, l11, y11, z11⟩, st11⟩ := X6.privateBack hx (y := (⟨"com/example/fair_witness/fairwitness/attestation/DerReader", "readTagNumber", "(IILjava/lang/String;)I"⟩ : MethodName)) hown (mvT hZ (hw _ (List.mem_of_getElem? (i := 63) rfl))) (mvT hZ (hw _ (List.mem_of_getElem? (i := 64) rfl))) (own_selp (y := (⟨"com/example/fair_witness/fairwitness/attestation/DerReader", "readTagNumber", "(IILjava/lang/String;)I"⟩ : MethodName)) (mvT hZ (hw _ (List.mem_of_getElem? (i := 6) rfl))) (Cond.privateMethod_at (mvP hZ (hw _ (List.mem_of_getElem? (i := 65) rfl)) (args := #[]))) (mvT hZ (hw _ (List.mem_of_getElem? (i := 64) rfl))) (by decide)) (Cond.privateMethod_at (mvP hZ (hw _ (List.mem_of_getElem? (i := 65) rfl)) (args := #[]))) (mvT hZ (hw _ (List.mem_of_getElem? (i := 66) rfl))) (by decide) (backOf (W := 0) (rm12 l Z a0 hw [] r0 (5 : Int32) (dd5 &&& (255 : Int32)) b4 T6.heap n0 (Nat.le_trans Z0 K6.1) ht) hZ (hw _ (List.mem_of_getElem? (i := 66) rfl)) (hw _ (List.mem_of_getElem? (i := 7) rfl)) (by decide) (by decide)) (g := (mkF m 19 #[rv r0, iv (5 : Int32), rv b4, iv (dd5 &&& (255 : Int32)), .unset] [(.ref b4), (.int (dd5 &&& (255 : Int32))), (.int (5 : Int32)), (.ref r0)])) rfl (by rw [hml]; rfl) (Steps.refl _) (a := r0) q11 q11' (argsL := [(.int (5 : Int32)), (.int (dd5 &&& (255 : Int32))), (.ref b4)]) (rest := []) (lenOf pd10 rfl) rfl (by show 2 * 0 + _ ≤ _; exact Nat.le_of_eq rfl) (hb hby d11_19) (fun _ _ => ⟨rfl, rfl, (by decide : 2 + 0 ≤ _), (by decide : 32 + 0 ≤ _)⟩)
  dsimp only [Pt.U, Pt.locs, Pt.cells, Pt.slots] at X11 l11 y11 z11 st11 hQ11
  subst l11 y11 z11
  obtain ⟨rfl, N11q, hh11⟩ := hQ11
  have N11 := Fr.app N6 N11q
  have pre12 : ∀ t, Steps p.tables e below (T11.setTop (mkF m 26 #[rv r0, iv (5 : Int32), rv b4, iv (dd5 &&& (255 : Int32)), .unset] [(.ref b4), (.int (5 : Int32)), (.ref r0)])) t → Steps p.tables e below (s₁.setTop (entryFrame m #[(.ref r0)] 5)) t := by
    intro t kt
    refine pre7 _ ?_
    show Steps p.tables e below (T6.setTop (mkF m 19 #[rv r0, iv (5 : Int32), rv b4, iv (dd5 &&& (255 : Int32)), .unset] [(.ref b4), (.int (dd5 &&& (255 : Int32))), (.int (5 : Int32)), (.ref r0)])) _
    refine st11.trans ?_
    show Steps p.tables e below (T11.setTop (mkF m 22 #[rv r0, iv (5 : Int32), rv b4, iv (dd5 &&& (255 : Int32)), .unset] [(.int ((dd5 &&& (255 : Int32)) &&& (31 : Int32)))])) _
    refine XS.pop X11.here hx rfl (hb hby d11_22) rfl rfl ?_
    refine XS.aloadN X11.here hx rfl (hb hby d11_23) rfl rfl ?_
    refine XS.iloadN X11.here hx rfl (hb hby d11_24) rfl ?_
    refine XS.aloadN X11.here hx rfl (hb hby d11_25) rfl rfl ?_
    exact kt
  obtain ⟨cq13, q13, q13'⟩ := f10.cell
  obtain ⟨_, _, ⟨T13, L13, k13, n13⟩, -, X13, ⟨Lc13, hQ13, l13, y13, z13⟩, st13⟩ := X11.privateBack hx (y := (⟨"com/example/fair_witness/fairwitness/attestation/DerReader", "readLength", "(ILjava/lang/String;)I"⟩ : MethodName)) hown (mvT hZ (hw _ (List.mem_of_getElem? (i := 43) rfl))) (mvT hZ (hw _ (List.mem_of_getElem? (i := 44) rfl))) (own_selp (y := (⟨"com/example/fair_witness/fairwitness/attestation/DerReader", "readLength", "(ILjava/lang/String;)I"⟩ : MethodName)) (mvT hZ (hw _ (List.mem_of_getElem? (i := 6) rfl))) (Cond.privateMethod_at (mvP hZ (hw _ (List.mem_of_getElem? (i := 45) rfl)) (args := #[]))) (mvT hZ (hw _ (List.mem_of_getElem? (i := 44) rfl))) (by decide)) (Cond.privateMethod_at (mvP hZ (hw _ (List.mem_of_getElem? (i := 45) rfl)) (args := #[]))) (mvT hZ (hw _ (List.mem_of_getElem? (i := 46) rfl))) (by decide) (backOf (W := 0) (rm8i6 l Z a0 hw [] r0 (5 : Int32) b4 ab kc dd0 dd1 dd2 dd3 dd4 dd5 dd6 dd7 (8 : Int32) (1 : Int32) T6.heap n0 (Nat.le_trans Z0 K6.1) Fb_6 Fp_6 Fe_6 f10 g_r0 f8 f9 (by decide) hv6 (by decide) (by decide) (by decide)) hZ (hw _ (List.mem_of_getElem? (i := 46) rfl)) (hw _ (List.mem_of_getElem? (i := 7) rfl)) (by decide) (by decide)) (g := (mkF m 26 #[rv r0, iv (5 : Int32), rv b4, iv (dd5 &&& (255 : Int32)), .unset] [(.ref b4), (.int (5 : Int32)), (.ref r0)])) rfl (by rw [hml]; rfl) (Steps.refl _) (a := r0) (by rw [hh11]; exact q13) q13' (argsL := [(.int (5 : Int32)), (.ref b4)]) (rest := []) (lenOf pd3 rfl) rfl (by show 2 * 0 + _ ≤ _; exact Nat.le_of_eq rfl) (hb hby d11_26) (fun _ _ => ⟨rfl, hh11, (by decide : 2 + 0 ≤ _), (by decide : 32 + 0 ≤ _)⟩)
  dsimp only [Pt.U, Pt.locs, Pt.cells, Pt.slots] at X13 l13 y13 z13 st13 hQ13
  subst l13 y13 z13
  obtain ⟨rfl, N13q, Kc13, Fb_13, Fp_13, Fe_13⟩ := hQ13
  have N13 := Fr.app N11 N13q
  have K13 : Keep h0 T13.heap [r0] := K6.trans Kc13 (allS (Or.inl (List.mem_of_getElem? (i := 0) rfl)) all0)
  have pre14 : ∀ t, Steps p.tables e below (T13.setTop (mkF m 33 #[rv r0, iv (5 : Int32), rv b4, iv (dd5 &&& (255 : Int32)), iv (1 : Int32)] [(.ref r0), (.ref r0)])) t → Steps p.tables e below (s₁.setTop (entryFrame m #[(.ref r0)] 5)) t := by
    intro t kt
    refine pre12 _ ?_
    show Steps p.tables e below (T11.setTop (mkF m 26 #[rv r0, iv (5 : Int32), rv b4, iv (dd5 &&& (255 : Int32)), .unset] [(.ref b4), (.int (5 : Int32)), (.ref r0)])) _
    refine st13.trans ?_
    show Steps p.tables e below (T13.setTop (mkF m 29 #[rv r0, iv (5 : Int32), rv b4, iv (dd5 &&& (255 : Int32)), .unset] [(.int (1 : Int32))])) _
    refine XS.istore X13.here hx rfl (hb hby d11_29) rfl (l' := #[rv r0, iv (5 : Int32), rv b4, iv (dd5 &&& (255 : Int32)), iv (1 : Int32)]) rfl ?_
    refine XS.aloadN X13.here hx rfl (hb hby d11_31) rfl rfl ?_
    refine XS.dup X13.here hx rfl (hb hby d11_32) rfl rfl ?_
    exact kt
  obtain ⟨T15, X15, e15, st15⟩ := getF X13 hx hZ hown (host := "") (Or.inl (hw _ (List.mem_of_getElem? (i := 19) rfl))) Via.refl rfl Fp_13 (g := (mkF m 33 #[rv r0, iv (5 : Int32), rv b4, iv (dd5 &&& (255 : Int32)), iv (1 : Int32)] [(.ref r0), (.ref r0)])) rfl rfl (hb hby d11_33)
  have pre16 : ∀ t, Steps p.tables e below (T15.setTop (mkF m 39 #[rv r0, iv (5 : Int32), rv b4, iv (dd5 &&& (255 : Int32)), iv (1 : Int32)] [(.int (8 : Int32)), (.ref r0)])) t → Steps p.tables e below (s₁.setTop (entryFrame m #[(.ref r0)] 5)) t := by
    intro t kt
    refine pre14 _ ?_
    show Steps p.tables e below (T13.setTop (mkF m 33 #[rv r0, iv (5 : Int32), rv b4, iv (dd5 &&& (255 : Int32)), iv (1 : Int32)] [(.ref r0), (.ref r0)])) _
    refine st15 _ ?_
    show Steps p.tables e below (T15.setTop (mkF m 36 #[rv r0, iv (5 : Int32), rv b4, iv (dd5 &&& (255 : Int32)), iv (1 : Int32)] [(.int (7 : Int32)), (.ref r0)])) _
    refine XS.iload X15.here hx rfl (hb hby d11_36) rfl ?_
    refine XS.iadd X15.here hx rfl (hb hby d11_38) rfl ?_
    show Steps p.tables e below (T15.setTop (mkF m 39 #[rv r0, iv (5 : Int32), rv b4, iv (dd5 &&& (255 : Int32)), iv (1 : Int32)] [(.int ((7 : Int32) + (1 : Int32))), (.ref r0)])) _
    rw [show ((7 : Int32) + (1 : Int32)) = (8 : Int32) from (by decide)]
    exact kt
  obtain ⟨T17, h17, X17, e17, W17, st17⟩ := putF X15 hx hZ hown (host := "") (Or.inl (hw _ (List.mem_of_getElem? (i := 19) rfl))) Via.refl e15 Fp_13 (f10.keep Kc13) (Or.inl (hw _ (List.mem_of_getElem? (i := 20) rfl))) (hw _ (List.mem_of_getElem? (i := 6) rfl)) (ty := .int) (by decide) rfl rfl (g := (mkF m 39 #[rv r0, iv (5 : Int32), rv b4, iv (dd5 &&& (255 : Int32)), iv (1 : Int32)] [(.int (8 : Int32)), (.ref r0)])) rfl rfl (hb hby d11_39)
  have Fw17 : Fld Z h17 r0 "com/example/fair_witness/fairwitness/attestation/DerReader" "position" "I" (.int (8 : Int32)) := Fp_13.same W17
  have K17 : Keep h0 h17 [r0] := K13.wr W17 (Or.inl (List.mem_of_getElem? (i := 0) rfl))
  have N17 := Fr.snoc X17 N13 g_r0
  have pre18 : ∀ t, Steps p.tables e below (T17.setTop (mkF m 43 #[rv r0, iv (5 : Int32), rv b4, iv (dd5 &&& (255 : Int32)), iv (1 : Int32)] [(.ref r0)])) t → Steps p.tables e below (s₁.setTop (entryFrame m #[(.ref r0)] 5)) t := by
    intro t kt
    refine pre16 _ ?_
    show Steps p.tables e below (T15.setTop (mkF m 39 #[rv r0, iv (5 : Int32), rv b4, iv (dd5 &&& (255 : Int32)), iv (1 : Int32)] [(.int (8 : Int32)), (.ref r0)])) _
    refine st17 _ ?_
    show Steps p.tables e below (T17.setTop (mkF m 42 #[rv r0, iv (5 : Int32), rv b4, iv (dd5 &&& (255 : Int32)), iv (1 : Int32)] [])) _
    refine XS.aloadN X17.here hx rfl (hb hby d11_42) rfl rfl ?_
    exact kt
  obtain ⟨T19, X19, e19, st19⟩ := getF X17 hx hZ hown (host := "") (Or.inl (hw _ (List.mem_of_getElem? (i := 17) rfl))) Via.refl e17 (Fb_13.other W17 (Or.inr (slot_ne (Or.inr (hw _ (List.mem_of_getElem? (i := 18) rfl))) (Or.inl (hw _ (List.mem_of_getElem? (i := 20) rfl))) (by decide) (t := (.array .byte)) (t' := .int) (by decide) (by decide)))) (g := (mkF m 43 #[rv r0, iv (5 : Int32), rv b4, iv (dd5 &&& (255 : Int32)), iv (1 : Int32)] [(.ref r0)])) rfl rfl (hb hby d11_43)
  have pre20 : ∀ t, Steps p.tables e below (T19.setTop (mkF m 48 #[rv r0, iv (5 : Int32), rv b4, iv (dd5 &&& (255 : Int32)), iv (1 : Int32)] [(.ref r0), (.int (5 : Int32)), (.ref ab)])) t → Steps p.tables e below (s₁.setTop (entryFrame m #[(.ref r0)] 5)) t := by
    intro t kt
    refine pre18 _ ?_
    show Steps p.tables e below (T17.setTop (mkF m 43 #[rv r0, iv (5 : Int32), rv b4, iv (dd5 &&& (255 : Int32)), iv (1 : Int32)] [(.ref r0)])) _
    refine st19 _ ?_
    show Steps p.tables e below (T19.setTop (mkF m 46 #[rv r0, iv (5 : Int32), rv b4, iv (dd5 &&& (255 : Int32)), iv (1 : Int32)] [(.ref ab)])) _
    refine XS.iloadN X19.here hx rfl (hb hby d11_46) rfl ?_
    refine XS.aloadN X19.here hx rfl (hb hby d11_47) rfl rfl ?_
    exact kt
  obtain ⟨T21, X21, e21, st21⟩ := getF X19 hx hZ hown (host := "") (Or.inl (hw _ (List.mem_of_getElem? (i := 19) rfl))) Via.refl e19 Fw17 (g := (mkF m 48 #[rv r0, iv (5 : Int32), rv b4, iv (dd5 &&& (255 : Int32)), iv (1 : Int32)] [(.ref r0), (.int (5 : Int32)), (.ref ab)])) rfl rfl (hb hby d11_48)
  have pre22 : ∀ t, Steps p.tables e below (T21.setTop (mkF m 51 #[rv r0, iv (5 : Int32), rv b4, iv (dd5 &&& (255 : Int32)), iv (1 : Int32)] [(.int (8 : Int32)), (.int (5 : Int32)), (.ref ab)])) t → Steps p.tables e below (s₁.setTop (entryFrame m #[(.ref r0)] 5)) t := by
    intro t kt
    refine pre20 _ ?_
    show Steps p.tables e below (T19.setTop (mkF m 48 #[rv r0, iv (5 : Int32), rv b4, iv (dd5 &&& (255 : Int32)), iv (1 : Int32)] [(.ref r0), (.int (5 : Int32)), (.ref ab)])) _
    refine st21 _ ?_
    exact kt
  have f23 := ((f8.keep Kc13 (ninS (Exa.ne ((f9.keep Kc13).wr W17) ((f10.keep Kc13).wr W17) (by decide)) nin0)).other W17 (Exa.ne ((f9.keep Kc13).wr W17) ((f10.keep Kc13).wr W17) (by decide)))
  have f24 := ((f9.keep Kc13).wr W17)
  have f25 := ((f10.keep Kc13).wr W17)
  obtain ⟨_, _, ⟨T26, L26, k26, n26⟩, -, X26, ⟨Lc26, hQ26, l26, y26, z26⟩, st26⟩ := Jvm.LawKit.callS X21 hx (y := (⟨"java/util/Arrays", "copyOfRange", "([BII)[B"⟩ : MethodName)) hown (mvT hZ (hw _ (List.mem_of_getElem? (i := 67) rfl))) (mvT hZ (hw _ (List.mem_of_getElem? (i := 68) rfl))) (mvT hZ (hw _ (List.mem_of_getElem? (i := 69) rfl))) (mvT hZ (hw _ (List.mem_of_getElem? (i := 70) rfl))) (by decide) (backOf (W := 0) (rm13i5_8 l Z a0 hw [] ab kc dd0 dd1 dd2 dd3 dd4 dd5 dd6 dd7 h17 n0 (Nat.le_trans Z0 K17.1) f23) hZ (hw _ (List.mem_of_getElem? (i := 70) rfl)) (hw _ (List.mem_of_getElem? (i := 69) rfl)) (by decide) (by decide)) (g := (mkF m 51 #[rv r0, iv (5 : Int32), rv b4, iv (dd5 &&& (255 : Int32)), iv (1 : Int32)] [(.int (8 : Int32)), (.int (5 : Int32)), (.ref ab)])) rfl (by rw [hml]; rfl) (argsL := [(.ref ab), (.int (5 : Int32)), (.int (8 : Int32))]) (rest := []) (lenOf pd9 rfl) rfl (by show 2 * 0 + _ ≤ _; exact Nat.le_of_eq rfl) (hb hby d11_51) (fun _ _ => ⟨rfl, e21, (by decide : 2 + 1 ≤ _), (by decide : 32 + 3 ≤ _)⟩)
  dsimp only [Pt.U, Pt.locs, Pt.cells, Pt.slots] at X26 l26 y26 z26 st26 hQ26
  subst l26 y26 z26
  obtain ⟨y26, rfl, N26q, Kc26⟩ := hQ26
  have N26 := Fr.app N17 N26q
  have K26 : Keep h0 T26.heap [r0] := K17.trans Kc26 all0
  have pre27 : ∀ t, Steps p.tables e below (T26.setTop (mkF m 54 #[rv r0, iv (5 : Int32), rv b4, iv (dd5 &&& (255 : Int32)), iv (1 : Int32)] [(.ref y26)])) t → Steps p.tables e below (s₁.setTop (entryFrame m #[(.ref r0)] 5)) t := by
    intro t kt
    refine pre22 _ ?_
    show Steps p.tables e below (T21.setTop (mkF m 51 #[rv r0, iv (5 : Int32), rv b4, iv (dd5 &&& (255 : Int32)), iv (1 : Int32)] [(.int (8 : Int32)), (.int (5 : Int32)), (.ref ab)])) _
    refine st26 _ ?_
    exact kt
  obtain ⟨fs, hr, hrun, hended, hRW⟩ := Jvm.Stand.leaveW (s := s) (vm₁ := T4.vm) X26 hS4 (Nat.le_trans (Nat.le_trans (Nat.le_trans (Nat.le_trans hk4 Kc6.1) Kc13.1) (Nat.le_of_eq W17.size.symm)) Kc26.1) (v := some (.ref y26)) (fun h => by rw [Bd.returns] at h; cases h)
  refine ⟨_, _, pre27 _ ?_, hrun, hended, _, _, rfl, ?_, hRW.1, hRW.2.1, hRW.2.2.1, hRW.2.2.2.mono (by decide) (by decide)⟩
  · show Steps p.tables e below (T26.setTop (mkF m 54 #[rv r0, iv (5 : Int32), rv b4, iv (dd5 &&& (255 : Int32)), iv (1 : Int32)] [(.ref y26)])) _
    jvm_step X26.here [X26.here.top, hx, (hb hby d11_54), X26.method', Bd.returns, Value.isRef, FieldType.isReference]
    first | (intro acts; rw [hr _ acts rfl rfl rfl]) | rw [hr _ _ rfl rfl rfl]
    exact Steps.refl _
  · show Q11i5_1_8 Z r0 ab kc dd0 dd1 dd2 dd3 dd4 dd5 dd6 dd7 h0 n0 _ T26.heap _
    exact ⟨y26, rfl, N26, K26, ((Fb_13.other W17 (Or.inr (slot_ne (Or.inr (hw _ (List.mem_of_getElem? (i := 18) rfl))) (Or.inl (hw _ (List.mem_of_getElem? (i := 20) rfl))) (by decide) (t := (.array .byte)) (t' := .int) (by decide) (by decide)))).keep Kc26 nin0), (Fw17.keep Kc26 nin0), ((Fe_13.other W17 (Or.inr (slot_ne (Or.inr (hw _ (List.mem_of_getElem? (i := 22) rfl))) (Or.inl (hw _ (List.mem_of_getElem? (i := 20) rfl))) (by decide) (t := .int) (t' := .int) (by decide) (by decide)))).keep Kc26 nin0)⟩

theorem ef_11i2_0_6 (m : MethodId) (x0 : Addr) : entryFrame m #[(.ref x0)] 5 = mkF m 0 #[.val (.ref x0), .unset, .unset, .unset, .unset] [] := by first | (simp [entryFrame, mkF, argsToLocals, Value.category]; done) | rfl
def Q11i2_0_6 (Z : State) (r0 : Addr) (ab : Addr) (kc : ClassId) (dd0 : Int32) (dd1 : Int32) (dd2 : Int32) (dd3 : Int32) (dd4 : Int32) (dd5 : Int32) (dd6 : Int32) (dd7 : Int32) (h0 : Heap) (n0 : Nat) (v : Option Value) (h : Heap) (L : List Loc) : Prop := ∃ y, v = some (.ref y) ∧ Fr n0 L ∧ Keep h0 h [r0] ∧ Fld Z h r0 "com/example/fair_witness/fairwitness/attestation/DerReader" "bytes" "[B" (.ref ab) ∧ Fld Z h r0 "com/example/fair_witness/fairwitness/attestation/DerReader" "position" "I" (.int (4 : Int32)) ∧ Fld Z h r0 "com/example/fair_witness/fairwitness/attestation/DerReader" "end" "I" (.int (6 : Int32))
set_option maxRecDepth 65536 in
set_option maxHeartbeats 40000000 in
theorem rm11i2_0_6 (l : Launch) (Z : State) (a0 : Array Value) (hw : ∀ d ∈ tables_1, d.before a0 Z = true) (ws : List Jvm.Cond) (r0 : Addr) (ab : Addr) (kc : ClassId) (dd0 : Int32) (dd1 : Int32) (dd2 : Int32) (dd3 : Int32) (dd4 : Int32) (dd5 : Int32) (dd6 : Int32) (dd7 : Int32) (h0 : Heap) (n0 : Nat) (Z0 : n0 ≤ h0.size) (F_bytes_r0 : Fld Z h0 r0 "com/example/fair_witness/fairwitness/attestation/DerReader" "bytes" "[B" (.ref ab)) (F_position_r0 : Fld Z h0 r0 "com/example/fair_witness/fairwitness/attestation/DerReader" "position" "I" (.int (2 : Int32))) (F_end_r0 : Fld Z h0 r0 "com/example/fair_witness/fairwitness/attestation/DerReader" "end" "I" (.int (6 : Int32))) (E_r0 : Exa Z h0 r0 "com/example/fair_witness/fairwitness/attestation/DerReader") (g_r0 : n0 ≤ r0) (V_ab : Arv Z h0 ab kc .byte (8 : Int32) [(.int dd0), (.int dd1), (.int dd2), (.int dd3), (.int dd4), (.int dd5), (.int dd6), (.int dd7)] (.int (0 : Int32))) (E_ab : Exa Z h0 ab "[B") (ht : ¬ (((dd2 &&& (255 : Int32)) &&& (31 : Int32)) = (31 : Int32))) (hv3 : (dd3 &&& (255 : Int32)) = (0 : Int32)) :
    MetFree l (⟨"com/example/fair_witness/fairwitness/attestation/DerReader", "readElement", "()[B"⟩ : MethodName) (head1 (Jvm.Cond.code (⟨"com/example/fair_witness/fairwitness/attestation/DerReader", "readElement", "()[B"⟩ : MethodName) prog_10_method_8_code 5 (some (.array .byte)) :: ws) ({ frames := 3, cells := 3, slots := 34, locals := 48 } : Room)) (fun a U => a = #[(.ref r0)] ∧ Z.Warmed39 U.vm ∧ U.heap = h0) (fun _ _ _ _ _ => True) (fun _ U o U' => ∃ v L, o = .returned v ∧ Q11i2_0_6 Z r0 ab kc dd0 dd1 dd2 dd3 dd4 dd5 dd6 dd7 h0 n0 v U'.heap L ∧ ReturnedEndW U o U' L ({ frames := 3, cells := 3, slots := 34, locals := 48 } : Room).cells ({ frames := 3, cells := 3, slots := 34, locals := 48 } : Room).slots) := by
  refine MetFree.of_bodySF (plainFor_of_name pn1) hisR ?_
  intro p e s m args below meth c s₁ Bd hml0 hP hK
  obtain ⟨rfl, hZ, hh⟩ := hP
  have hx := Bd.exec
  have hby := Bd.bytes
  have hml : c.maxLocals = 5 := hml0
  have hown : s.vm.findClass "com/example/fair_witness/fairwitness/attestation/DerReader" = some m.cls := findClass_of_methodNamed Bd.named
  have hnm := (name_of_methodNamed Bd.named Bd.method).1
  have X0 : Stand p l e ({ frames := 3, cells := 3, slots := 34, locals := 48 } : Room) s m #[(.ref r0)] below meth c s₁ [] 0 0 := Stand.of_body Bd
  have e0 : s₁.heap = h0 := by rw [← hh, Bd.state]; rfl
  have N0 := Fr.nil n0
  have pre0 : ∀ t, Steps p.tables e below (s₁.setTop (mkF m 0 #[rv r0, .unset, .unset, .unset, .unset] [])) t → Steps p.tables e below (s₁.setTop (entryFrame m #[(.ref r0)] 5)) t := fun t k => castTop (ef_11i2_0_6 m r0) k
  have hS0 : s.Since s.vm h0.size := (State.WarmedH.refl s).since _
  have pre1 : ∀ t, Steps p.tables e below (s₁.setTop (mkF m 1 #[rv r0, .unset, .unset, .unset, .unset] [(.ref r0)])) t → Steps p.tables e below (s₁.setTop (entryFrame m #[(.ref r0)] 5)) t := by
    intro t kt
    refine pre0 _ ?_
    show Steps p.tables e below (s₁.setTop (mkF m 0 #[rv r0, .unset, .unset, .unset, .unset] [])) _
    refine XS.aloadN X0.here hx rfl (hb hby d11_0) rfl rfl ?_
    exact kt
  obtain ⟨T2, X2, e2, st2⟩ := getF X0 hx hZ hown (host := "") (Or.inl (hw _ (List.mem_of_getElem? (i := 19) rfl))) Via.refl e0 F_position_r0 (g := (mkF m 1 #[rv r0, .unset, .unset, .unset, .unset] [(.ref r0)])) rfl rfl (hb hby d11_1)
  have pre3 : ∀ t, Steps p.tables e below (T2.setTop (mkF m 5 #[rv r0, iv (2 : Int32), .unset, .unset, .unset] [])) t → Steps p.tables e below (s₁.setTop (entryFrame m #[(.ref r0)] 5)) t := by
    intro t kt
    refine pre1 _ ?_
    show Steps p.tables e below (s₁.setTop (mkF m 1 #[rv r0, .unset, .unset, .unset, .unset] [(.ref r0)])) _
    refine st2 _ ?_
    show Steps p.tables e below (T2.setTop (mkF m 4 #[rv r0, .unset, .unset, .unset, .unset] [(.int (2 : Int32))])) _
    refine XS.istoreN X2.here hx rfl (hb hby d11_4) rfl (l' := #[rv r0, iv (2 : Int32), .unset, .unset, .unset]) rfl ?_
    exact kt
  obtain ⟨b4, T4, h4, k4, X4, e4, E4, hS4, hk4, hZ, hown, st4⟩ := ldcS (s := s) (vm0 := s.vm) X2 hx hZ hown (hw _ (List.mem_of_getElem? (i := 62) rfl)) (own_wS hw) e2 hS0 (Nat.le_refl _) (g := (mkF m 5 #[rv r0, iv (2 : Int32), .unset, .unset, .unset] [])) rfl (hb hby d11_5) (n := 28) (by decide +kernel) (by decide) (by decide) (by decide)
  have K4 : Keep h0 h4 [r0] := (Keep.refl h0 [r0]).ext E4
  have pre5 : ∀ t, Steps p.tables e below (T4.setTop (mkF m 11 #[rv r0, iv (2 : Int32), rv b4, .unset, .unset] [(.ref b4), (.int (2 : Int32)), (.ref r0)])) t → Steps p.tables e below (s₁.setTop (entryFrame m #[(.ref r0)] 5)) t := by
    intro t kt
    refine pre3 _ ?_
    show Steps p.tables e below (T2.setTop (mkF m 5 #[rv r0, iv (2 : Int32), .unset, .unset, .unset] [])) _
    refine st4 _ ?_
    show Steps p.tables e below (T4.setTop (mkF m 7 #[rv r0, iv (2 : Int32), .unset, .unset, .unset] [(.ref b4)])) _
    refine XS.astoreN X4.here hx rfl (hb hby d11_7) rfl rfl (l' := #[rv r0, iv (2 : Int32), rv b4, .unset, .unset]) rfl ?_
    refine XS.aloadN X4.here hx rfl (hb hby d11_8) rfl rfl ?_
    refine XS.iloadN X4.here hx rfl (hb hby d11_9) rfl ?_
    refine XS.aloadN X4.here hx rfl (hb hby d11_10) rfl rfl ?_
    exact kt
  obtain ⟨cq6, q6, q6'⟩ := (E_r0.ext E4).cell
  obtain ⟨_, _, ⟨T6, L6, k6, n6⟩, -, X6, ⟨Lc6, hQ6, l6, y6, z6⟩, st6⟩ := X4.privateBack hx (y := (⟨"com/example/fair_witness/fairwitness/attestation/DerReader", "nextByte", "(ILjava/lang/String;)I"⟩ : MethodName)) hown (mvT hZ (hw _ (List.mem_of_getElem? (i := 39) rfl))) (mvT hZ (hw _ (List.mem_of_getElem? (i := 40) rfl))) (own_selp (y := (⟨"com/example/fair_witness/fairwitness/attestation/DerReader", "nextByte", "(ILjava/lang/String;)I"⟩ : MethodName)) (mvT hZ (hw _ (List.mem_of_getElem? (i := 6) rfl))) (Cond.privateMethod_at (mvP hZ (hw _ (List.mem_of_getElem? (i := 41) rfl)) (args := #[]))) (mvT hZ (hw _ (List.mem_of_getElem? (i := 40) rfl))) (by decide)) (Cond.privateMethod_at (mvP hZ (hw _ (List.mem_of_getElem? (i := 41) rfl)) (args := #[]))) (mvT hZ (hw _ (List.mem_of_getElem? (i := 42) rfl))) (by decide) (backOf (W := 0) (rm7i2 l Z a0 hw [] r0 (2 : Int32) b4 ab kc dd0 dd1 dd2 dd3 dd4 dd5 dd6 dd7 (6 : Int32) (dd2 &&& (255 : Int32)) h4 n0 (Nat.le_trans Z0 K4.1) (F_bytes_r0.ext E4) (F_position_r0.ext E4) (F_end_r0.ext E4) (E_r0.ext E4) g_r0 (V_ab.ext E4) (E_ab.ext E4) (by decide) rfl) hZ (hw _ (List.mem_of_getElem? (i := 42) rfl)) (hw _ (List.mem_of_getElem? (i := 7) rfl)) (by decide) (by decide)) (g := (mkF m 11 #[rv r0, iv (2 : Int32), rv b4, .unset, .unset] [(.ref b4), (.int (2 : Int32)), (.ref r0)])) rfl (by rw [hml]; rfl) (Steps.refl _) (a := r0) (by rw [e4]; exact q6) q6' (argsL := [(.int (2 : Int32)), (.ref b4)]) (rest := []) (lenOf pd3 rfl) rfl (by show 2 * 0 + _ ≤ _; exact Nat.le_of_eq rfl) (hb hby d11_11) (fun _ _ => ⟨rfl, e4, (by decide : 2 + 0 ≤ _), (by decide : 32 + 0 ≤ _)⟩)
  dsimp only [Pt.U, Pt.locs, Pt.cells, Pt.slots] at X6 l6 y6 z6 st6 hQ6
  subst l6 y6 z6
  obtain ⟨rfl, N6q, Kc6, Fb_6, Fp_6, Fe_6⟩ := hQ6
  have N6 := Fr.app N0 N6q
  have K6 : Keep h0 T6.heap [r0] := K4.trans Kc6 (allS (Or.inl (List.mem_of_getElem? (i := 0) rfl)) all0)
  have pre7 : ∀ t, Steps p.tables e below (T6.setTop (mkF m 19 #[rv r0, iv (2 : Int32), rv b4, iv (dd2 &&& (255 : Int32)), .unset] [(.ref b4), (.int (dd2 &&& (255 : Int32))), (.int (2 : Int32)), (.ref r0)])) t → Steps p.tables e below (s₁.setTop (entryFrame m #[(.ref r0)] 5)) t := by
    intro t kt
    refine pre5 _ ?_
    show Steps p.tables e below (T4.setTop (mkF m 11 #[rv r0, iv (2 : Int32), rv b4, .unset, .unset] [(.ref b4), (.int (2 : Int32)), (.ref r0)])) _
    refine st6.trans ?_
    show Steps p.tables e below (T6.setTop (mkF m 14 #[rv r0, iv (2 : Int32), rv b4, .unset, .unset] [(.int (dd2 &&& (255 : Int32)))])) _
    refine XS.istoreN X6.here hx rfl (hb hby d11_14) rfl (l' := #[rv r0, iv (2 : Int32), rv b4, iv (dd2 &&& (255 : Int32)), .unset]) rfl ?_
    refine XS.aloadN X6.here hx rfl (hb hby d11_15) rfl rfl ?_
    refine XS.iloadN X6.here hx rfl (hb hby d11_16) rfl ?_
    refine XS.iloadN X6.here hx rfl (hb hby d11_17) rfl ?_
    refine XS.aloadN X6.here hx rfl (hb hby d11_18) rfl rfl ?_
    exact kt
  have f8 := ((V_ab.ext E4).keep Kc6 (ninS (Exa.ne ((E_ab.ext E4).keep Kc6) ((E_r0.ext E4).keep Kc6) (by decide)) nin0))
  have f9 := ((E_ab.ext E4).keep Kc6)
  have f10 := ((E_r0.ext E4).keep Kc6)
  obtain ⟨cq11, q11, q11'⟩ := f10.cell
  obtain ⟨_, _, ⟨T11, L11, k11, n11⟩, -, X11, ⟨Lc11, hQ11, l11, y11, z11⟩, st11⟩ := X6.privateBack hx (y := (⟨"com/example/fair_witness/fairwitness/attestation/DerReader", "readTagNumber", "(IILjava/lang/String;)I"⟩ : MethodName)) hown (mvT hZ (hw _ (List.mem_of_getElem? (i := 63) rfl))) (mvT hZ (hw _ (List.mem_of_getElem? (i := 64) rfl))) (own_selp (y := (⟨"com/example/fair_witness/fairwitness/attestation/DerReader", "readTagNumber", "(IILjava/lang/String;)I"⟩ : MethodName)) (mvT hZ (hw _ (List.mem_of_getElem? (i := 6) rfl))) (Cond.privateMethod_at (mvP hZ (hw _ (List.mem_of_getElem? (i := 65) rfl)) (args := #[]))) (mvT hZ (hw _ (List.mem_of_getElem? (i := 64) rfl))) (by decide)) (Cond.privateMethod_at (mvP hZ (hw _ (List.mem_of_getElem? (i := 65) rfl)) (args := #[]))) (mvT hZ (hw _ (List.mem_of_getElem? (i := 66) rfl))) (by decide) (backOf (W := 0) (rm12 l Z a0 hw [] r0 (2 : Int32) (dd2 &&& (255 : Int32)) b4 T6.heap n0 (Nat.le_trans Z0 K6.1) ht) hZ (hw _ (List.mem_of_getElem? (i := 66) rfl)) (hw _ (List.mem_of_getElem? (i := 7) rfl)) (by decide) (by decide)) (g := (mkF m 19 #[rv r0, iv (2 : Int32), rv b4, iv (dd2 &&& (255 : Int32)), .unset] [(.ref b4), (.int (dd2 &&& (255 : Int32))), (.int (2 : Int32)), (.ref r0)])) rfl (by rw [hml]; rfl) (Steps.refl _) (a := r0) q11 q11' (argsL := [(.int (2 : Int32)), (.int (dd2 &&& (255 : Int32))), (.ref b4)]) (rest := []) (lenOf pd10 rfl) rfl (by show 2 * 0 + _ ≤ _; exact Nat.le_of_eq rfl) (hb hby d11_19) (fun _ _ => ⟨rfl, rfl, (by decide : 2 + 0 ≤ _), (by decide : 32 + 0 ≤ _)⟩)
  dsimp only [Pt.U, Pt.locs, Pt.cells, Pt.slots] at X11 l11 y11 z11 st11 hQ11
  subst l11 y11 z11
  obtain ⟨rfl, N11q, hh11⟩ := hQ11
  have N11 := Fr.app N6 N11q
  have pre12 : ∀ t, Steps p.tables e below (T11.setTop (mkF m 26 #[rv r0, iv (2 : Int32), rv b4, iv (dd2 &&& (255 : Int32)), .unset] [(.ref b4), (.int (2 : Int32)), (.ref r0)])) t → Steps p.tables e below (s₁.setTop (entryFrame m #[(.ref r0)] 5)) t := by
    intro t kt
    refine pre7 _ ?_
    show Steps p.tables e below (T6.setTop (mkF m 19 #[rv r0, iv (2 : Int32), rv b4, iv (dd2 &&& (255 : Int32)), .unset] [(.ref b4), (.int (dd2 &&& (255 : Int32))), (.int (2 : Int32)), (.ref r0)])) _
    refine st11.trans ?_
    show Steps p.tables e below (T11.setTop (mkF m 22 #[rv r0, iv (2 : Int32), rv b4, iv (dd2 &&& (255 : Int32)), .unset] [(.int ((dd2 &&& (255 : Int32)) &&& (31 : Int32)))])) _
    refine XS.pop X11.here hx rfl (hb hby d11_22) rfl rfl ?_
    refine XS.aloadN X11.here hx rfl (hb hby d11_23) rfl rfl ?_
    refine XS.iloadN X11.here hx rfl (hb hby d11_24) rfl ?_
    refine XS.aloadN X11.here hx rfl (hb hby d11_25) rfl rfl ?_
    exact kt
  obtain ⟨cq13, q13, q13'⟩ := f10.cell
  obtain ⟨_, _, ⟨T13, L13, k13, n13⟩, -, X13, ⟨Lc13, hQ13, l13, y13, z13⟩, st13⟩ := X11.privateBack hx (y := (⟨"com/example/fair_witness/fairwitness/attestation/DerReader", "readLength", "(ILjava/lang/String;)I"⟩ : MethodName)) hown (mvT hZ (hw _ (List.mem_of_getElem? (i := 43) rfl))) (mvT hZ (hw _ (List.mem_of_getElem? (i := 44) rfl))) (own_selp (y := (⟨"com/example/fair_witness/fairwitness/attestation/DerReader", "readLength", "(ILjava/lang/String;)I"⟩ : MethodName)) (mvT hZ (hw _ (List.mem_of_getElem? (i := 6) rfl))) (Cond.privateMethod_at (mvP hZ (hw _ (List.mem_of_getElem? (i := 45) rfl)) (args := #[]))) (mvT hZ (hw _ (List.mem_of_getElem? (i := 44) rfl))) (by decide)) (Cond.privateMethod_at (mvP hZ (hw _ (List.mem_of_getElem? (i := 45) rfl)) (args := #[]))) (mvT hZ (hw _ (List.mem_of_getElem? (i := 46) rfl))) (by decide) (backOf (W := 0) (rm8i3 l Z a0 hw [] r0 (2 : Int32) b4 ab kc dd0 dd1 dd2 dd3 dd4 dd5 dd6 dd7 (6 : Int32) (0 : Int32) T6.heap n0 (Nat.le_trans Z0 K6.1) Fb_6 Fp_6 Fe_6 f10 g_r0 f8 f9 (by decide) hv3 (by decide) (by decide) (by decide)) hZ (hw _ (List.mem_of_getElem? (i := 46) rfl)) (hw _ (List.mem_of_getElem? (i := 7) rfl)) (by decide) (by decide)) (g := (mkF m 26 #[rv r0, iv (2 : Int32), rv b4, iv (dd2 &&& (255 : Int32)), .unset] [(.ref b4), (.int (2 : Int32)), (.ref r0)])) rfl (by rw [hml]; rfl) (Steps.refl _) (a := r0) (by rw [hh11]; exact q13) q13' (argsL := [(.int (2 : Int32)), (.ref b4)]) (rest := []) (lenOf pd3 rfl) rfl (by show 2 * 0 + _ ≤ _; exact Nat.le_of_eq rfl) (hb hby d11_26) (fun _ _ => ⟨rfl, hh11, (by decide : 2 + 0 ≤ _), (by decide : 32 + 0 ≤ _)⟩)
  dsimp only [Pt.U, Pt.locs, Pt.cells, Pt.slots] at X13 l13 y13 z13 st13 hQ13
  subst l13 y13 z13
  obtain ⟨rfl, N13q, Kc13, Fb_13, Fp_13, Fe_13⟩ := hQ13
  have N13 := Fr.app N11 N13q
  have K13 : Keep h0 T13.heap [r0] := K6.trans Kc13 (allS (Or.inl (List.mem_of_getElem? (i := 0) rfl)) all0)
  have pre14 : ∀ t, Steps p.tables e below (T13.setTop (mkF m 33 #[rv r0, iv (2 : Int32), rv b4, iv (dd2 &&& (255 : Int32)), iv (0 : Int32)] [(.ref r0), (.ref r0)])) t → Steps p.tables e below (s₁.setTop (entryFrame m #[(.ref r0)] 5)) t := by
    intro t kt
    refine pre12 _ ?_
    show Steps p.tables e below (T11.setTop (mkF m 26 #[rv r0, iv (2 : Int32), rv b4, iv (dd2 &&& (255 : Int32)), .unset] [(.ref b4), (.int (2 : Int32)), (.ref r0)])) _
    refine st13.trans ?_
    show Steps p.tables e below (T13.setTop (mkF m 29 #[rv r0, iv (2 : Int32), rv b4, iv (dd2 &&& (255 : Int32)), .unset] [(.int (0 : Int32))])) _
    refine XS.istore X13.here hx rfl (hb hby d11_29) rfl (l' := #[rv r0, iv (2 : Int32), rv b4, iv (dd2 &&& (255 : Int32)), iv (0 : Int32)]) rfl ?_
    refine XS.aloadN X13.here hx rfl (hb hby d11_31) rfl rfl ?_
    refine XS.dup X13.here hx rfl (hb hby d11_32) rfl rfl ?_
    exact kt
  obtain ⟨T15, X15, e15, st15⟩ := getF X13 hx hZ hown (host := "") (Or.inl (hw _ (List.mem_of_getElem? (i := 19) rfl))) Via.refl rfl Fp_13 (g := (mkF m 33 #[rv r0, iv (2 : Int32), rv b4, iv (dd2 &&& (255 : Int32)), iv (0 : Int32)] [(.ref r0), (.ref r0)])) rfl rfl (hb hby d11_33)
  have pre16 : ∀ t, Steps p.tables e below (T15.setTop (mkF m 39 #[rv r0, iv (2 : Int32), rv b4, iv (dd2 &&& (255 : Int32)), iv (0 : Int32)] [(.int (4 : Int32)), (.ref r0)])) t → Steps p.tables e below (s₁.setTop (entryFrame m #[(.ref r0)] 5)) t := by
    intro t kt
    refine pre14 _ ?_
    show Steps p.tables e below (T13.setTop (mkF m 33 #[rv r0, iv (2 : Int32), rv b4, iv (dd2 &&& (255 : Int32)), iv (0 : Int32)] [(.ref r0), (.ref r0)])) _
    refine st15 _ ?_
    show Steps p.tables e below (T15.setTop (mkF m 36 #[rv r0, iv (2 : Int32), rv b4, iv (dd2 &&& (255 : Int32)), iv (0 : Int32)] [(.int (4 : Int32)), (.ref r0)])) _
    refine XS.iload X15.here hx rfl (hb hby d11_36) rfl ?_
    refine XS.iadd X15.here hx rfl (hb hby d11_38) rfl ?_
    show Steps p.tables e below (T15.setTop (mkF m 39 #[rv r0, iv (2 : Int32), rv b4, iv (dd2 &&& (255 : Int32)), iv (0 : Int32)] [(.int ((4 : Int32) + (0 : Int32))), (.ref r0)])) _
    rw [show ((4 : Int32) + (0 : Int32)) = (4 : Int32) from (by decide)]
    exact kt
  obtain ⟨T17, h17, X17, e17, W17, st17⟩ := putF X15 hx hZ hown (host := "") (Or.inl (hw _ (List.mem_of_getElem? (i := 19) rfl))) Via.refl e15 Fp_13 (f10.keep Kc13) (Or.inl (hw _ (List.mem_of_getElem? (i := 20) rfl))) (hw _ (List.mem_of_getElem? (i := 6) rfl)) (ty := .int) (by decide) rfl rfl (g := (mkF m 39 #[rv r0, iv (2 : Int32), rv b4, iv (dd2 &&& (255 : Int32)), iv (0 : Int32)] [(.int (4 : Int32)), (.ref r0)])) rfl rfl (hb hby d11_39)
  have Fw17 : Fld Z h17 r0 "com/example/fair_witness/fairwitness/attestation/DerReader" "position" "I" (.int (4 : Int32)) := Fp_13.same W17
  have K17 : Keep h0 h17 [r0] := K13.wr W17 (Or.inl (List.mem_of_getElem? (i := 0) rfl))
  have N17 := Fr.snoc X17 N13 g_r0
  have pre18 : ∀ t, Steps p.tables e below (T17.setTop (mkF m 43 #[rv r0, iv (2 : Int32), rv b4, iv (dd2 &&& (255 : Int32)), iv (0 : Int32)] [(.ref r0)])) t → Steps p.tables e below (s₁.setTop (entryFrame m #[(.ref r0)] 5)) t := by
    intro t kt
    refine pre16 _ ?_
    show Steps p.tables e below (T15.setTop (mkF m 39 #[rv r0, iv (2 : Int32), rv b4, iv (dd2 &&& (255 : Int32)), iv (0 : Int32)] [(.int (4 : Int32)), (.ref r0)])) _
    refine st17 _ ?_
    show Steps p.tables e below (T17.setTop (mkF m 42 #[rv r0, iv (2 : Int32), rv b4, iv (dd2 &&& (255 : Int32)), iv (0 : Int32)] [])) _
    refine XS.aloadN X17.here hx rfl (hb hby d11_42) rfl rfl ?_
    exact kt
  obtain ⟨T19, X19, e19, st19⟩ := getF X17 hx hZ hown (host := "") (Or.inl (hw _ (List.mem_of_getElem? (i := 17) rfl))) Via.refl e17 (Fb_13.other W17 (Or.inr (slot_ne (Or.inr (hw _ (List.mem_of_getElem? (i := 18) rfl))) (Or.inl (hw _ (List.mem_of_getElem? (i := 20) rfl))) (by decide) (t := (.array .byte)) (t' := .int) (by decide) (by decide)))) (g := (mkF m 43 #[rv r0, iv (2 : Int32), rv b4, iv (dd2 &&& (255 : Int32)), iv (0 : Int32)] [(.ref r0)])) rfl rfl (hb hby d11_43)
  have pre20 : ∀ t, Steps p.tables e below (T19.setTop (mkF m 48 #[rv r0, iv (2 : Int32), rv b4, iv (dd2 &&& (255 : Int32)), iv (0 : Int32)] [(.ref r0), (.int (2 : Int32)), (.ref ab)])) t → Steps p.tables e below (s₁.setTop (entryFrame m #[(.ref r0)] 5)) t := by
    intro t kt
    refine pre18 _ ?_
    show Steps p.tables e below (T17.setTop (mkF m 43 #[rv r0, iv (2 : Int32), rv b4, iv (dd2 &&& (255 : Int32)), iv (0 : Int32)] [(.ref r0)])) _
    refine st19 _ ?_
    show Steps p.tables e below (T19.setTop (mkF m 46 #[rv r0, iv (2 : Int32), rv b4, iv (dd2 &&& (255 : Int32)), iv (0 : Int32)] [(.ref ab)])) _
    refine XS.iloadN X19.here hx rfl (hb hby d11_46) rfl ?_
    refine XS.aloadN X19.here hx rfl (hb hby d11_47) rfl rfl ?_
    exact kt
  obtain ⟨T21, X21, e21, st21⟩ := getF X19 hx hZ hown (host := "") (Or.inl (hw _ (List.mem_of_getElem? (i := 19) rfl))) Via.refl e19 Fw17 (g := (mkF m 48 #[rv r0, iv (2 : Int32), rv b4, iv (dd2 &&& (255 : Int32)), iv (0 : Int32)] [(.ref r0), (.int (2 : Int32)), (.ref ab)])) rfl rfl (hb hby d11_48)
  have pre22 : ∀ t, Steps p.tables e below (T21.setTop (mkF m 51 #[rv r0, iv (2 : Int32), rv b4, iv (dd2 &&& (255 : Int32)), iv (0 : Int32)] [(.int (4 : Int32)), (.int (2 : Int32)), (.ref ab)])) t → Steps p.tables e below (s₁.setTop (entryFrame m #[(.ref r0)] 5)) t := by
    intro t kt
    refine pre20 _ ?_
    show Steps p.tables e below (T19.setTop (mkF m 48 #[rv r0, iv (2 : Int32), rv b4, iv (dd2 &&& (255 : Int32)), iv (0 : Int32)] [(.ref r0), (.int (2 : Int32)), (.ref ab)])) _
    refine st21 _ ?_
    exact kt
  have f23 := ((f8.keep Kc13 (ninS (Exa.ne ((f9.keep Kc13).wr W17) ((f10.keep Kc13).wr W17) (by decide)) nin0)).other W17 (Exa.ne ((f9.keep Kc13).wr W17) ((f10.keep Kc13).wr W17) (by decide)))
  have f24 := ((f9.keep Kc13).wr W17)
  have f25 := ((f10.keep Kc13).wr W17)
  obtain ⟨_, _, ⟨T26, L26, k26, n26⟩, -, X26, ⟨Lc26, hQ26, l26, y26, z26⟩, st26⟩ := Jvm.LawKit.callS X21 hx (y := (⟨"java/util/Arrays", "copyOfRange", "([BII)[B"⟩ : MethodName)) hown (mvT hZ (hw _ (List.mem_of_getElem? (i := 67) rfl))) (mvT hZ (hw _ (List.mem_of_getElem? (i := 68) rfl))) (mvT hZ (hw _ (List.mem_of_getElem? (i := 69) rfl))) (mvT hZ (hw _ (List.mem_of_getElem? (i := 70) rfl))) (by decide) (backOf (W := 0) (rm13i2_4 l Z a0 hw [] ab kc dd0 dd1 dd2 dd3 dd4 dd5 dd6 dd7 h17 n0 (Nat.le_trans Z0 K17.1) f23) hZ (hw _ (List.mem_of_getElem? (i := 70) rfl)) (hw _ (List.mem_of_getElem? (i := 69) rfl)) (by decide) (by decide)) (g := (mkF m 51 #[rv r0, iv (2 : Int32), rv b4, iv (dd2 &&& (255 : Int32)), iv (0 : Int32)] [(.int (4 : Int32)), (.int (2 : Int32)), (.ref ab)])) rfl (by rw [hml]; rfl) (argsL := [(.ref ab), (.int (2 : Int32)), (.int (4 : Int32))]) (rest := []) (lenOf pd9 rfl) rfl (by show 2 * 0 + _ ≤ _; exact Nat.le_of_eq rfl) (hb hby d11_51) (fun _ _ => ⟨rfl, e21, (by decide : 2 + 1 ≤ _), (by decide : 32 + 2 ≤ _)⟩)
  dsimp only [Pt.U, Pt.locs, Pt.cells, Pt.slots] at X26 l26 y26 z26 st26 hQ26
  subst l26 y26 z26
  obtain ⟨y26, rfl, N26q, Kc26⟩ := hQ26
  have N26 := Fr.app N17 N26q
  have K26 : Keep h0 T26.heap [r0] := K17.trans Kc26 all0
  have pre27 : ∀ t, Steps p.tables e below (T26.setTop (mkF m 54 #[rv r0, iv (2 : Int32), rv b4, iv (dd2 &&& (255 : Int32)), iv (0 : Int32)] [(.ref y26)])) t → Steps p.tables e below (s₁.setTop (entryFrame m #[(.ref r0)] 5)) t := by
    intro t kt
    refine pre22 _ ?_
    show Steps p.tables e below (T21.setTop (mkF m 51 #[rv r0, iv (2 : Int32), rv b4, iv (dd2 &&& (255 : Int32)), iv (0 : Int32)] [(.int (4 : Int32)), (.int (2 : Int32)), (.ref ab)])) _
    refine st26 _ ?_
    exact kt
  obtain ⟨fs, hr, hrun, hended, hRW⟩ := Jvm.Stand.leaveW (s := s) (vm₁ := T4.vm) X26 hS4 (Nat.le_trans (Nat.le_trans (Nat.le_trans (Nat.le_trans hk4 Kc6.1) Kc13.1) (Nat.le_of_eq W17.size.symm)) Kc26.1) (v := some (.ref y26)) (fun h => by rw [Bd.returns] at h; cases h)
  refine ⟨_, _, pre27 _ ?_, hrun, hended, _, _, rfl, ?_, hRW.1, hRW.2.1, hRW.2.2.1, hRW.2.2.2.mono (by decide) (by decide)⟩
  · show Steps p.tables e below (T26.setTop (mkF m 54 #[rv r0, iv (2 : Int32), rv b4, iv (dd2 &&& (255 : Int32)), iv (0 : Int32)] [(.ref y26)])) _
    jvm_step X26.here [X26.here.top, hx, (hb hby d11_54), X26.method', Bd.returns, Value.isRef, FieldType.isReference]
    first | (intro acts; rw [hr _ acts rfl rfl rfl]) | rw [hr _ _ rfl rfl rfl]
    exact Steps.refl _
  · show Q11i2_0_6 Z r0 ab kc dd0 dd1 dd2 dd3 dd4 dd5 dd6 dd7 h0 n0 _ T26.heap _
    exact ⟨y26, rfl, N26, K26, ((Fb_13.other W17 (Or.inr (slot_ne (Or.inr (hw _ (List.mem_of_getElem? (i := 18) rfl))) (Or.inl (hw _ (List.mem_of_getElem? (i := 20) rfl))) (by decide) (t := (.array .byte)) (t' := .int) (by decide) (by decide)))).keep Kc26 nin0), (Fw17.keep Kc26 nin0), ((Fe_13.other W17 (Or.inr (slot_ne (Or.inr (hw _ (List.mem_of_getElem? (i := 22) rfl))) (Or.inl (hw _ (List.mem_of_getElem? (i := 20) rfl))) (by decide) (t := .int) (t' := .int) (by decide) (by decide)))).keep Kc26 nin0)⟩

theorem ef_11i4_0_6 (m : MethodId) (x0 : Addr) : entryFrame m #[(.ref x0)] 5 = mkF m 0 #[.val (.ref x0), .unset, .unset, .unset, .unset] [] := by first | (simp [entryFrame, mkF, argsToLocals, Value.category]; done) | rfl
def Q11i4_0_6 (Z : State) (r0 : Addr) (ab : Addr) (kc : ClassId) (dd0 : Int32) (dd1 : Int32) (dd2 : Int32) (dd3 : Int32) (dd4 : Int32) (dd5 : Int32) (dd6 : Int32) (dd7 : Int32) (h0 : Heap) (n0 : Nat) (v : Option Value) (h : Heap) (L : List Loc) : Prop := ∃ y, v = some (.ref y) ∧ Fr n0 L ∧ Keep h0 h [r0] ∧ Fld Z h r0 "com/example/fair_witness/fairwitness/attestation/DerReader" "bytes" "[B" (.ref ab) ∧ Fld Z h r0 "com/example/fair_witness/fairwitness/attestation/DerReader" "position" "I" (.int (6 : Int32)) ∧ Fld Z h r0 "com/example/fair_witness/fairwitness/attestation/DerReader" "end" "I" (.int (6 : Int32))
set_option maxRecDepth 65536 in
set_option maxHeartbeats 40000000 in
theorem rm11i4_0_6 (l : Launch) (Z : State) (a0 : Array Value) (hw : ∀ d ∈ tables_1, d.before a0 Z = true) (ws : List Jvm.Cond) (r0 : Addr) (ab : Addr) (kc : ClassId) (dd0 : Int32) (dd1 : Int32) (dd2 : Int32) (dd3 : Int32) (dd4 : Int32) (dd5 : Int32) (dd6 : Int32) (dd7 : Int32) (h0 : Heap) (n0 : Nat) (Z0 : n0 ≤ h0.size) (F_bytes_r0 : Fld Z h0 r0 "com/example/fair_witness/fairwitness/attestation/DerReader" "bytes" "[B" (.ref ab)) (F_position_r0 : Fld Z h0 r0 "com/example/fair_witness/fairwitness/attestation/DerReader" "position" "I" (.int (4 : Int32))) (F_end_r0 : Fld Z h0 r0 "com/example/fair_witness/fairwitness/attestation/DerReader" "end" "I" (.int (6 : Int32))) (E_r0 : Exa Z h0 r0 "com/example/fair_witness/fairwitness/attestation/DerReader") (g_r0 : n0 ≤ r0) (V_ab : Arv Z h0 ab kc .byte (8 : Int32) [(.int dd0), (.int dd1), (.int dd2), (.int dd3), (.int dd4), (.int dd5), (.int dd6), (.int dd7)] (.int (0 : Int32))) (E_ab : Exa Z h0 ab "[B") (ht : ¬ (((dd4 &&& (255 : Int32)) &&& (31 : Int32)) = (31 : Int32))) (hv5 : (dd5 &&& (255 : Int32)) = (0 : Int32)) :
    MetFree l (⟨"com/example/fair_witness/fairwitness/attestation/DerReader", "readElement", "()[B"⟩ : MethodName) (head1 (Jvm.Cond.code (⟨"com/example/fair_witness/fairwitness/attestation/DerReader", "readElement", "()[B"⟩ : MethodName) prog_10_method_8_code 5 (some (.array .byte)) :: ws) ({ frames := 3, cells := 3, slots := 34, locals := 48 } : Room)) (fun a U => a = #[(.ref r0)] ∧ Z.Warmed39 U.vm ∧ U.heap = h0) (fun _ _ _ _ _ => True) (fun _ U o U' => ∃ v L, o = .returned v ∧ Q11i4_0_6 Z r0 ab kc dd0 dd1 dd2 dd3 dd4 dd5 dd6 dd7 h0 n0 v U'.heap L ∧ ReturnedEndW U o U' L ({ frames := 3, cells := 3, slots := 34, locals := 48 } : Room).cells ({ frames := 3, cells := 3, slots := 34, locals := 48 } : Room).slots) := by
  refine MetFree.of_bodySF (plainFor_of_name pn1) hisR ?_
  intro p e s m args below meth c s₁ Bd hml0 hP hK
  obtain ⟨rfl, hZ, hh⟩ := hP
  have hx := Bd.exec
  have hby := Bd.bytes
  have hml : c.maxLocals = 5 := hml0
  have hown : s.vm.findClass "com/example/fair_witness/fairwitness/attestation/DerReader" = some m.cls := findClass_of_methodNamed Bd.named
  have hnm := (name_of_methodNamed Bd.named Bd.method).1
  have X0 : Stand p l e ({ frames := 3, cells := 3, slots := 34, locals := 48 } : Room) s m #[(.ref r0)] below meth c s₁ [] 0 0 := Stand.of_body Bd
  have e0 : s₁.heap = h0 := by rw [← hh, Bd.state]; rfl
  have N0 := Fr.nil n0
  have pre0 : ∀ t, Steps p.tables e below (s₁.setTop (mkF m 0 #[rv r0, .unset, .unset, .unset, .unset] [])) t → Steps p.tables e below (s₁.setTop (entryFrame m #[(.ref r0)] 5)) t := fun t k => castTop (ef_11i4_0_6 m r0) k
  have hS0 : s.Since s.vm h0.size := (State.WarmedH.refl s).since _
  have pre1 : ∀ t, Steps p.tables e below (s₁.setTop (mkF m 1 #[rv r0, .unset, .unset, .unset, .unset] [(.ref r0)])) t → Steps p.tables e below (s₁.setTop (entryFrame m #[(.ref r0)] 5)) t := by
    intro t kt
    refine pre0 _ ?_
    show Steps p.tables e below (s₁.setTop (mkF m 0 #[rv r0, .unset, .unset, .unset, .unset] [])) _
    refine XS.aloadN X0.here hx rfl (hb hby d11_0) rfl rfl ?_
    exact kt
  obtain ⟨T2, X2, e2, st2⟩ := getF X0 hx hZ hown (host := "") (Or.inl (hw _ (List.mem_of_getElem? (i := 19) rfl))) Via.refl e0 F_position_r0 (g := (mkF m 1 #[rv r0, .unset, .unset, .unset, .unset] [(.ref r0)])) rfl rfl (hb hby d11_1)
  have pre3 : ∀ t, Steps p.tables e below (T2.setTop (mkF m 5 #[rv r0, iv (4 : Int32), .unset, .unset, .unset] [])) t → Steps p.tables e below (s₁.setTop (entryFrame m #[(.ref r0)] 5)) t := by
    intro t kt
    refine pre1 _ ?_
    show Steps p.tables e below (s₁.setTop (mkF m 1 #[rv r0, .unset, .unset, .unset, .unset] [(.ref r0)])) _
    refine st2 _ ?_
    show Steps p.tables e below (T2.setTop (mkF m 4 #[rv r0, .unset, .unset, .unset, .unset] [(.int (4 : Int32))])) _
    refine XS.istoreN X2.here hx rfl (hb hby d11_4) rfl (l' := #[rv r0, iv (4 : Int32), .unset, .unset, .unset]) rfl ?_
    exact kt
  obtain ⟨b4, T4, h4, k4, X4, e4, E4, hS4, hk4, hZ, hown, st4⟩ := ldcS (s := s) (vm0 := s.vm) X2 hx hZ hown (hw _ (List.mem_of_getElem? (i := 62) rfl)) (own_wS hw) e2 hS0 (Nat.le_refl _) (g := (mkF m 5 #[rv r0, iv (4 : Int32), .unset, .unset, .unset] [])) rfl (hb hby d11_5) (n := 28) (by decide +kernel) (by decide) (by decide) (by decide)
  have K4 : Keep h0 h4 [r0] := (Keep.refl h0 [r0]).ext E4
  have pre5 : ∀ t, Steps p.tables e below (T4.setTop (mkF m 11 #[rv r0, iv (4 : Int32), rv b4, .unset, .unset] [(.ref b4), (.int (4 : Int32)), (.ref r0)])) t → Steps p.tables e below (s₁.setTop (entryFrame m #[(.ref r0)] 5)) t := by
    intro t kt
    refine pre3 _ ?_
    show Steps p.tables e below (T2.setTop (mkF m 5 #[rv r0, iv (4 : Int32), .unset, .unset, .unset] [])) _
    refine st4 _ ?_
    show Steps p.tables e below (T4.setTop (mkF m 7 #[rv r0, iv (4 : Int32), .unset, .unset, .unset] [(.ref b4)])) _
    refine XS.astoreN X4.here hx rfl (hb hby d11_7) rfl rfl (l' := #[rv r0, iv (4 : Int32), rv b4, .unset, .unset]) rfl ?_
    refine XS.aloadN X4.here hx rfl (hb hby d11_8) rfl rfl ?_
    refine XS.iloadN X4.here hx rfl (hb hby d11_9) rfl ?_
    refine XS.aloadN X4.here hx rfl (hb hby d11_10) rfl rfl ?_
    exact kt
  obtain ⟨cq6, q6, q6'⟩ := (E_r0.ext E4).cell
  obtain ⟨_, _, ⟨T6, L6, k6, n6⟩, -, X6, ⟨Lc6, hQ6, l6, y6, z6⟩, st6⟩ := X4.privateBack hx (y := (⟨"com/example/fair_witness/fairwitness/attestation/DerReader", "nextByte", "(ILjava/lang/String;)I"⟩ : MethodName)) hown (mvT hZ (hw _ (List.mem_of_getElem? (i := 39) rfl))) (mvT hZ (hw _ (List.mem_of_getElem? (i := 40) rfl))) (own_selp (y := (⟨"com/example/fair_witness/fairwitness/attestation/DerReader", "nextByte", "(ILjava/lang/String;)I"⟩ : MethodName)) (mvT hZ (hw _ (List.mem_of_getElem? (i := 6) rfl))) (Cond.privateMethod_at (mvP hZ (hw _ (List.mem_of_getElem? (i := 41) rfl)) (args := #[]))) (mvT hZ (hw _ (List.mem_of_getElem? (i := 40) rfl))) (by decide)) (Cond.privateMethod_at (mvP hZ (hw _ (List.mem_of_getElem? (i := 41) rfl)) (args := #[]))) (mvT hZ (hw _ (List.mem_of_getElem? (i := 42) rfl))) (by decide) (backOf (W := 0) (rm7i4 l Z a0 hw [] r0 (4 : Int32) b4 ab kc dd0 dd1 dd2 dd3 dd4 dd5 dd6 dd7 (6 : Int32) (dd4 &&& (255 : Int32)) h4 n0 (Nat.le_trans Z0 K4.1) (F_bytes_r0.ext E4) (F_position_r0.ext E4) (F_end_r0.ext E4) (E_r0.ext E4) g_r0 (V_ab.ext E4) (E_ab.ext E4) (by decide) rfl) hZ (hw _ (List.mem_of_getElem? (i := 42) rfl)) (hw _ (List.mem_of_getElem? (i := 7) rfl)) (by decide) (by decide)) (g := (mkF m 11 #[rv r0, iv (4 : Int32), rv b4, .unset, .unset] [(.ref b4), (.int (4 : Int32)), (.ref r0)])) rfl (by rw [hml]; rfl) (Steps.refl _) (a := r0) (by rw [e4]; exact q6) q6' (argsL := [(.int (4 : Int32)), (.ref b4)]) (rest := []) (lenOf pd3 rfl) rfl (by show 2 * 0 + _ ≤ _; exact Nat.le_of_eq rfl) (hb hby d11_11) (fun _ _ => ⟨rfl, e4, (by decide : 2 + 0 ≤ _), (by decide : 32 + 0 ≤ _)⟩)
  dsimp only [Pt.U, Pt.locs, Pt.cells, Pt.slots] at X6 l6 y6 z6 st6 hQ6
  subst l6 y6 z6
  obtain ⟨rfl, N6q, Kc6, Fb_6, Fp_6, Fe_6⟩ := hQ6
  have N6 := Fr.app N0 N6q
  have K6 : Keep h0 T6.heap [r0] := K4.trans Kc6 (allS (Or.inl (List.mem_of_getElem? (i := 0) rfl)) all0)
  have pre7 : ∀ t, Steps p.tables e below (T6.setTop (mkF m 19 #[rv r0, iv (4 : Int32), rv b4, iv (dd4 &&& (255 : Int32)), .unset] [(.ref b4), (.int (dd4 &&& (255 : Int32))), (.int (4 : Int32)), (.ref r0)])) t → Steps p.tables e below (s₁.setTop (entryFrame m #[(.ref r0)] 5)) t := by
    intro t kt
    refine pre5 _ ?_
    show Steps p.tables e below (T4.setTop (mkF m 11 #[rv r0, iv (4 : Int32), rv b4, .unset, .unset] [(.ref b4), (.int (4 : Int32)), (.ref r0)])) _
    refine st6.trans ?_
    show Steps p.tables e below (T6.setTop (mkF m 14 #[rv r0, iv (4 : Int32), rv b4, .unset, .unset] [(.int (dd4 &&& (255 : Int32)))])) _
    refine XS.istoreN X6.here hx rfl (hb hby d11_14) rfl (l' := #[rv r0, iv (4 : Int32), rv b4, iv (dd4 &&& (255 : Int32)), .unset]) rfl ?_
    refine XS.aloadN X6.here hx rfl (hb hby d11_15) rfl rfl ?_
    refine XS.iloadN X6.here hx rfl (hb hby d11_16) rfl ?_
    refine XS.iloadN X6.here hx rfl (hb hby d11_17) rfl ?_
    refine XS.aloadN X6.here hx rfl (hb hby d11_18) rfl rfl ?_
    exact kt
  have f8 := ((V_ab.ext E4).keep Kc6 (ninS (Exa.ne ((E_ab.ext E4).keep Kc6) ((E_r0.ext E4).keep Kc6) (by decide)) nin0))
  have f9 := ((E_ab.ext E4).keep Kc6)
  have f10 := ((E_r0.ext E4).keep Kc6)
  obtain ⟨cq11, q11, q11'⟩ := f10.cell
  obtain ⟨_, _, ⟨T11, L11, k11, n11⟩, -, X11, ⟨Lc11, hQ11, l11, y11, z11⟩, st11⟩ := X6.privateBack hx (y := (⟨"com/example/fair_witness/fairwitness/attestation/DerReader", "readTagNumber", "(IILjava/lang/String;)I"⟩ : MethodName)) hown (mvT hZ (hw _ (List.mem_of_getElem? (i := 63) rfl))) (mvT hZ (hw _ (List.mem_of_getElem? (i := 64) rfl))) (own_selp (y := (⟨"com/example/fair_witness/fairwitness/attestation/DerReader", "readTagNumber", "(IILjava/lang/String;)I"⟩ : MethodName)) (mvT hZ (hw _ (List.mem_of_getElem? (i := 6) rfl))) (Cond.privateMethod_at (mvP hZ (hw _ (List.mem_of_getElem? (i := 65) rfl)) (args := #[]))) (mvT hZ (hw _ (List.mem_of_getElem? (i := 64) rfl))) (by decide)) (Cond.privateMethod_at (mvP hZ (hw _ (List.mem_of_getElem? (i := 65) rfl)) (args := #[]))) (mvT hZ (hw _ (List.mem_of_getElem? (i := 66) rfl))) (by decide) (backOf (W := 0) (rm12 l Z a0 hw [] r0 (4 : Int32) (dd4 &&& (255 : Int32)) b4 T6.heap n0 (Nat.le_trans Z0 K6.1) ht) hZ (hw _ (List.mem_of_getElem? (i := 66) rfl)) (hw _ (List.mem_of_getElem? (i := 7) rfl)) (by decide) (by decide)) (g := (mkF m 19 #[rv r0, iv (4 : Int32), rv b4, iv (dd4 &&& (255 : Int32)), .unset] [(.ref b4), (.int (dd4 &&& (255 : Int32))), (.int (4 : Int32)), (.ref r0)])) rfl (by rw [hml]; rfl) (Steps.refl _) (a := r0) q11 q11' (argsL := [(.int (4 : Int32)), (.int (dd4 &&& (255 : Int32))), (.ref b4)]) (rest := []) (lenOf pd10 rfl) rfl (by show 2 * 0 + _ ≤ _; exact Nat.le_of_eq rfl) (hb hby d11_19) (fun _ _ => ⟨rfl, rfl, (by decide : 2 + 0 ≤ _), (by decide : 32 + 0 ≤ _)⟩)
  dsimp only [Pt.U, Pt.locs, Pt.cells, Pt.slots] at X11 l11 y11 z11 st11 hQ11
  subst l11 y11 z11
  obtain ⟨rfl, N11q, hh11⟩ := hQ11
  have N11 := Fr.app N6 N11q
  have pre12 : ∀ t, Steps p.tables e below (T11.setTop (mkF m 26 #[rv r0, iv (4 : Int32), rv b4, iv (dd4 &&& (255 : Int32)), .unset] [(.ref b4), (.int (4 : Int32)), (.ref r0)])) t → Steps p.tables e below (s₁.setTop (entryFrame m #[(.ref r0)] 5)) t := by
    intro t kt
    refine pre7 _ ?_
    show Steps p.tables e below (T6.setTop (mkF m 19 #[rv r0, iv (4 : Int32), rv b4, iv (dd4 &&& (255 : Int32)), .unset] [(.ref b4), (.int (dd4 &&& (255 : Int32))), (.int (4 : Int32)), (.ref r0)])) _
    refine st11.trans ?_
    show Steps p.tables e below (T11.setTop (mkF m 22 #[rv r0, iv (4 : Int32), rv b4, iv (dd4 &&& (255 : Int32)), .unset] [(.int ((dd4 &&& (255 : Int32)) &&& (31 : Int32)))])) _
    refine XS.pop X11.here hx rfl (hb hby d11_22) rfl rfl ?_
    refine XS.aloadN X11.here hx rfl (hb hby d11_23) rfl rfl ?_
    refine XS.iloadN X11.here hx rfl (hb hby d11_24) rfl ?_
    refine XS.aloadN X11.here hx rfl (hb hby d11_25) rfl rfl ?_
    exact kt
  obtain ⟨cq13, q13, q13'⟩ := f10.cell
  obtain ⟨_, _, ⟨T13, L13, k13, n13⟩, -, X13, ⟨Lc13, hQ13, l13, y13, z13⟩, st13⟩ := X11.privateBack hx (y := (⟨"com/example/fair_witness/fairwitness/attestation/DerReader", "readLength", "(ILjava/lang/String;)I"⟩ : MethodName)) hown (mvT hZ (hw _ (List.mem_of_getElem? (i := 43) rfl))) (mvT hZ (hw _ (List.mem_of_getElem? (i := 44) rfl))) (own_selp (y := (⟨"com/example/fair_witness/fairwitness/attestation/DerReader", "readLength", "(ILjava/lang/String;)I"⟩ : MethodName)) (mvT hZ (hw _ (List.mem_of_getElem? (i := 6) rfl))) (Cond.privateMethod_at (mvP hZ (hw _ (List.mem_of_getElem? (i := 45) rfl)) (args := #[]))) (mvT hZ (hw _ (List.mem_of_getElem? (i := 44) rfl))) (by decide)) (Cond.privateMethod_at (mvP hZ (hw _ (List.mem_of_getElem? (i := 45) rfl)) (args := #[]))) (mvT hZ (hw _ (List.mem_of_getElem? (i := 46) rfl))) (by decide) (backOf (W := 0) (rm8i5 l Z a0 hw [] r0 (4 : Int32) b4 ab kc dd0 dd1 dd2 dd3 dd4 dd5 dd6 dd7 (6 : Int32) (0 : Int32) T6.heap n0 (Nat.le_trans Z0 K6.1) Fb_6 Fp_6 Fe_6 f10 g_r0 f8 f9 (by decide) hv5 (by decide) (by decide) (by decide)) hZ (hw _ (List.mem_of_getElem? (i := 46) rfl)) (hw _ (List.mem_of_getElem? (i := 7) rfl)) (by decide) (by decide)) (g := (mkF m 26 #[rv r0, iv (4 : Int32), rv b4, iv (dd4 &&& (255 : Int32)), .unset] [(.ref b4), (.int (4 : Int32)), (.ref r0)])) rfl (by rw [hml]; rfl) (Steps.refl _) (a := r0) (by rw [hh11]; exact q13) q13' (argsL := [(.int (4 : Int32)), (.ref b4)]) (rest := []) (lenOf pd3 rfl) rfl (by show 2 * 0 + _ ≤ _; exact Nat.le_of_eq rfl) (hb hby d11_26) (fun _ _ => ⟨rfl, hh11, (by decide : 2 + 0 ≤ _), (by decide : 32 + 0 ≤ _)⟩)
  dsimp only [Pt.U, Pt.locs, Pt.cells, Pt.slots] at X13 l13 y13 z13 st13 hQ13
  subst l13 y13 z13
  obtain ⟨rfl, N13q, Kc13, Fb_13, Fp_13, Fe_13⟩ := hQ13
  have N13 := Fr.app N11 N13q
  have K13 : Keep h0 T13.heap [r0] := K6.trans Kc13 (allS (Or.inl (List.mem_of_getElem? (i := 0) rfl)) all0)
  have pre14 : ∀ t, Steps p.tables e below (T13.setTop (mkF m 33 #[rv r0, iv (4 : Int32), rv b4, iv (dd4 &&& (255 : Int32)), iv (0 : Int32)] [(.ref r0), (.ref r0)])) t → Steps p.tables e below (s₁.setTop (entryFrame m #[(.ref r0)] 5)) t := by
    intro t kt
    refine pre12 _ ?_
    show Steps p.tables e below (T11.setTop (mkF m 26 #[rv r0, iv (4 : Int32), rv b4, iv (dd4 &&& (255 : Int32)), .unset] [(.ref b4), (.int (4 : Int32)), (.ref r0)])) _
    refine st13.trans ?_
    show Steps p.tables e below (T13.setTop (mkF m 29 #[rv r0, iv (4 : Int32), rv b4, iv (dd4 &&& (255 : Int32)), .unset] [(.int (0 : Int32))])) _
    refine XS.istore X13.here hx rfl (hb hby d11_29) rfl (l' := #[rv r0, iv (4 : Int32), rv b4, iv (dd4 &&& (255 : Int32)), iv (0 : Int32)]) rfl ?_
    refine XS.aloadN X13.here hx rfl (hb hby d11_31) rfl rfl ?_
    refine XS.dup X13.here hx rfl (hb hby d11_32) rfl rfl ?_
    exact kt
  obtain ⟨T15, X15, e15, st15⟩ := getF X13 hx hZ hown (host := "") (Or.inl (hw _ (List.mem_of_getElem? (i := 19) rfl))) Via.refl rfl Fp_13 (g := (mkF m 33 #[rv r0, iv (4 : Int32), rv b4, iv (dd4 &&& (255 : Int32)), iv (0 : Int32)] [(.ref r0), (.ref r0)])) rfl rfl (hb hby d11_33)
  have pre16 : ∀ t, Steps p.tables e below (T15.setTop (mkF m 39 #[rv r0, iv (4 : Int32), rv b4, iv (dd4 &&& (255 : Int32)), iv (0 : Int32)] [(.int (6 : Int32)), (.ref r0)])) t → Steps p.tables e below (s₁.setTop (entryFrame m #[(.ref r0)] 5)) t := by
    intro t kt
    refine pre14 _ ?_
    show Steps p.tables e below (T13.setTop (mkF m 33 #[rv r0, iv (4 : Int32), rv b4, iv (dd4 &&& (255 : Int32)), iv (0 : Int32)] [(.ref r0), (.ref r0)])) _
    refine st15 _ ?_
    show Steps p.tables e below (T15.setTop (mkF m 36 #[rv r0, iv (4 : Int32), rv b4, iv (dd4 &&& (255 : Int32)), iv (0 : Int32)] [(.int (6 : Int32)), (.ref r0)])) _
    refine XS.iload X15.here hx rfl (hb hby d11_36) rfl ?_
    refine XS.iadd X15.here hx rfl (hb hby d11_38) rfl ?_
    show Steps p.tables e below (T15.setTop (mkF m 39 #[rv r0, iv (4 : Int32), rv b4, iv (dd4 &&& (255 : Int32)), iv (0 : Int32)] [(.int ((6 : Int32) + (0 : Int32))), (.ref r0)])) _
    rw [show ((6 : Int32) + (0 : Int32)) = (6 : Int32) from (by decide)]
    exact kt
  obtain ⟨T17, h17, X17, e17, W17, st17⟩ := putF X15 hx hZ hown (host := "") (Or.inl (hw _ (List.mem_of_getElem? (i := 19) rfl))) Via.refl e15 Fp_13 (f10.keep Kc13) (Or.inl (hw _ (List.mem_of_getElem? (i := 20) rfl))) (hw _ (List.mem_of_getElem? (i := 6) rfl)) (ty := .int) (by decide) rfl rfl (g := (mkF m 39 #[rv r0, iv (4 : Int32), rv b4, iv (dd4 &&& (255 : Int32)), iv (0 : Int32)] [(.int (6 : Int32)), (.ref r0)])) rfl rfl (hb hby d11_39)
  have Fw17 : Fld Z h17 r0 "com/example/fair_witness/fairwitness/attestation/DerReader" "position" "I" (.int (6 : Int32)) := Fp_13.same W17
  have K17 : Keep h0 h17 [r0] := K13.wr W17 (Or.inl (List.mem_of_getElem? (i := 0) rfl))
  have N17 := Fr.snoc X17 N13 g_r0
  have pre18 : ∀ t, Steps p.tables e below (T17.setTop (mkF m 43 #[rv r0, iv (4 : Int32), rv b4, iv (dd4 &&& (255 : Int32)), iv (0 : Int32)] [(.ref r0)])) t → Steps p.tables e below (s₁.setTop (entryFrame m #[(.ref r0)] 5)) t := by
    intro t kt
    refine pre16 _ ?_
    show Steps p.tables e below (T15.setTop (mkF m 39 #[rv r0, iv (4 : Int32), rv b4, iv (dd4 &&& (255 : Int32)), iv (0 : Int32)] [(.int (6 : Int32)), (.ref r0)])) _
    refine st17 _ ?_
    show Steps p.tables e below (T17.setTop (mkF m 42 #[rv r0, iv (4 : Int32), rv b4, iv (dd4 &&& (255 : Int32)), iv (0 : Int32)] [])) _
    refine XS.aloadN X17.here hx rfl (hb hby d11_42) rfl rfl ?_
    exact kt
  obtain ⟨T19, X19, e19, st19⟩ := getF X17 hx hZ hown (host := "") (Or.inl (hw _ (List.mem_of_getElem? (i := 17) rfl))) Via.refl e17 (Fb_13.other W17 (Or.inr (slot_ne (Or.inr (hw _ (List.mem_of_getElem? (i := 18) rfl))) (Or.inl (hw _ (List.mem_of_getElem? (i := 20) rfl))) (by decide) (t := (.array .byte)) (t' := .int) (by decide) (by decide)))) (g := (mkF m 43 #[rv r0, iv (4 : Int32), rv b4, iv (dd4 &&& (255 : Int32)), iv (0 : Int32)] [(.ref r0)])) rfl rfl (hb hby d11_43)
  have pre20 : ∀ t, Steps p.tables e below (T19.setTop (mkF m 48 #[rv r0, iv (4 : Int32), rv b4, iv (dd4 &&& (255 : Int32)), iv (0 : Int32)] [(.ref r0), (.int (4 : Int32)), (.ref ab)])) t → Steps p.tables e below (s₁.setTop (entryFrame m #[(.ref r0)] 5)) t := by
    intro t kt
    refine pre18 _ ?_
    show Steps p.tables e below (T17.setTop (mkF m 43 #[rv r0, iv (4 : Int32), rv b4, iv (dd4 &&& (255 : Int32)), iv (0 : Int32)] [(.ref r0)])) _
    refine st19 _ ?_
    show Steps p.tables e below (T19.setTop (mkF m 46 #[rv r0, iv (4 : Int32), rv b4, iv (dd4 &&& (255 : Int32)), iv (0 : Int32)] [(.ref ab)])) _
    refine XS.iloadN X19.here hx rfl (hb hby d11_46) rfl ?_
    refine XS.aloadN X19.here hx rfl (hb hby d11_47) rfl rfl ?_
    exact kt
  obtain ⟨T21, X21, e21, st21⟩ := getF X19 hx hZ hown (host := "") (Or.inl (hw _ (List.mem_of_getElem? (i := 19) rfl))) Via.refl e19 Fw17 (g := (mkF m 48 #[rv r0, iv (4 : Int32), rv b4, iv (dd4 &&& (255 : Int32)), iv (0 : Int32)] [(.ref r0), (.int (4 : Int32)), (.ref ab)])) rfl rfl (hb hby d11_48)
  have pre22 : ∀ t, Steps p.tables e below (T21.setTop (mkF m 51 #[rv r0, iv (4 : Int32), rv b4, iv (dd4 &&& (255 : Int32)), iv (0 : Int32)] [(.int (6 : Int32)), (.int (4 : Int32)), (.ref ab)])) t → Steps p.tables e below (s₁.setTop (entryFrame m #[(.ref r0)] 5)) t := by
    intro t kt
    refine pre20 _ ?_
    show Steps p.tables e below (T19.setTop (mkF m 48 #[rv r0, iv (4 : Int32), rv b4, iv (dd4 &&& (255 : Int32)), iv (0 : Int32)] [(.ref r0), (.int (4 : Int32)), (.ref ab)])) _
    refine st21 _ ?_
    exact kt
  have f23 := ((f8.keep Kc13 (ninS (Exa.ne ((f9.keep Kc13).wr W17) ((f10.keep Kc13).wr W17) (by decide)) nin0)).other W17 (Exa.ne ((f9.keep Kc13).wr W17) ((f10.keep Kc13).wr W17) (by decide)))
  have f24 := ((f9.keep Kc13).wr W17)
  have f25 := ((f10.keep Kc13).wr W17)
  obtain ⟨_, _, ⟨T26, L26, k26, n26⟩, -, X26, ⟨Lc26, hQ26, l26, y26, z26⟩, st26⟩ := Jvm.LawKit.callS X21 hx (y := (⟨"java/util/Arrays", "copyOfRange", "([BII)[B"⟩ : MethodName)) hown (mvT hZ (hw _ (List.mem_of_getElem? (i := 67) rfl))) (mvT hZ (hw _ (List.mem_of_getElem? (i := 68) rfl))) (mvT hZ (hw _ (List.mem_of_getElem? (i := 69) rfl))) (mvT hZ (hw _ (List.mem_of_getElem? (i := 70) rfl))) (by decide) (backOf (W := 0) (rm13i4_6 l Z a0 hw [] ab kc dd0 dd1 dd2 dd3 dd4 dd5 dd6 dd7 h17 n0 (Nat.le_trans Z0 K17.1) f23) hZ (hw _ (List.mem_of_getElem? (i := 70) rfl)) (hw _ (List.mem_of_getElem? (i := 69) rfl)) (by decide) (by decide)) (g := (mkF m 51 #[rv r0, iv (4 : Int32), rv b4, iv (dd4 &&& (255 : Int32)), iv (0 : Int32)] [(.int (6 : Int32)), (.int (4 : Int32)), (.ref ab)])) rfl (by rw [hml]; rfl) (argsL := [(.ref ab), (.int (4 : Int32)), (.int (6 : Int32))]) (rest := []) (lenOf pd9 rfl) rfl (by show 2 * 0 + _ ≤ _; exact Nat.le_of_eq rfl) (hb hby d11_51) (fun _ _ => ⟨rfl, e21, (by decide : 2 + 1 ≤ _), (by decide : 32 + 2 ≤ _)⟩)
  dsimp only [Pt.U, Pt.locs, Pt.cells, Pt.slots] at X26 l26 y26 z26 st26 hQ26
  subst l26 y26 z26
  obtain ⟨y26, rfl, N26q, Kc26⟩ := hQ26
  have N26 := Fr.app N17 N26q
  have K26 : Keep h0 T26.heap [r0] := K17.trans Kc26 all0
  have pre27 : ∀ t, Steps p.tables e below (T26.setTop (mkF m 54 #[rv r0, iv (4 : Int32), rv b4, iv (dd4 &&& (255 : Int32)), iv (0 : Int32)] [(.ref y26)])) t → Steps p.tables e below (s₁.setTop (entryFrame m #[(.ref r0)] 5)) t := by
    intro t kt
    refine pre22 _ ?_
    show Steps p.tables e below (T21.setTop (mkF m 51 #[rv r0, iv (4 : Int32), rv b4, iv (dd4 &&& (255 : Int32)), iv (0 : Int32)] [(.int (6 : Int32)), (.int (4 : Int32)), (.ref ab)])) _
    refine st26 _ ?_
    exact kt
  obtain ⟨fs, hr, hrun, hended, hRW⟩ := Jvm.Stand.leaveW (s := s) (vm₁ := T4.vm) X26 hS4 (Nat.le_trans (Nat.le_trans (Nat.le_trans (Nat.le_trans hk4 Kc6.1) Kc13.1) (Nat.le_of_eq W17.size.symm)) Kc26.1) (v := some (.ref y26)) (fun h => by rw [Bd.returns] at h; cases h)
  refine ⟨_, _, pre27 _ ?_, hrun, hended, _, _, rfl, ?_, hRW.1, hRW.2.1, hRW.2.2.1, hRW.2.2.2.mono (by decide) (by decide)⟩
  · show Steps p.tables e below (T26.setTop (mkF m 54 #[rv r0, iv (4 : Int32), rv b4, iv (dd4 &&& (255 : Int32)), iv (0 : Int32)] [(.ref y26)])) _
    jvm_step X26.here [X26.here.top, hx, (hb hby d11_54), X26.method', Bd.returns, Value.isRef, FieldType.isReference]
    first | (intro acts; rw [hr _ acts rfl rfl rfl]) | rw [hr _ _ rfl rfl rfl]
    exact Steps.refl _
  · show Q11i4_0_6 Z r0 ab kc dd0 dd1 dd2 dd3 dd4 dd5 dd6 dd7 h0 n0 _ T26.heap _
    exact ⟨y26, rfl, N26, K26, ((Fb_13.other W17 (Or.inr (slot_ne (Or.inr (hw _ (List.mem_of_getElem? (i := 18) rfl))) (Or.inl (hw _ (List.mem_of_getElem? (i := 20) rfl))) (by decide) (t := (.array .byte)) (t' := .int) (by decide) (by decide)))).keep Kc26 nin0), (Fw17.keep Kc26 nin0), ((Fe_13.other W17 (Or.inr (slot_ne (Or.inr (hw _ (List.mem_of_getElem? (i := 22) rfl))) (Or.inl (hw _ (List.mem_of_getElem? (i := 20) rfl))) (by decide) (t := .int) (t' := .int) (by decide) (by decide)))).keep Kc26 nin0)⟩

theorem ef_11i6_0_8 (m : MethodId) (x0 : Addr) : entryFrame m #[(.ref x0)] 5 = mkF m 0 #[.val (.ref x0), .unset, .unset, .unset, .unset] [] := by first | (simp [entryFrame, mkF, argsToLocals, Value.category]; done) | rfl
def Q11i6_0_8 (Z : State) (r0 : Addr) (ab : Addr) (kc : ClassId) (dd0 : Int32) (dd1 : Int32) (dd2 : Int32) (dd3 : Int32) (dd4 : Int32) (dd5 : Int32) (dd6 : Int32) (dd7 : Int32) (h0 : Heap) (n0 : Nat) (v : Option Value) (h : Heap) (L : List Loc) : Prop := ∃ y, v = some (.ref y) ∧ Fr n0 L ∧ Keep h0 h [r0] ∧ Fld Z h r0 "com/example/fair_witness/fairwitness/attestation/DerReader" "bytes" "[B" (.ref ab) ∧ Fld Z h r0 "com/example/fair_witness/fairwitness/attestation/DerReader" "position" "I" (.int (8 : Int32)) ∧ Fld Z h r0 "com/example/fair_witness/fairwitness/attestation/DerReader" "end" "I" (.int (8 : Int32))
set_option maxRecDepth 65536 in
set_option maxHeartbeats 40000000 in
theorem rm11i6_0_8 (l : Launch) (Z : State) (a0 : Array Value) (hw : ∀ d ∈ tables_1, d.before a0 Z = true) (ws : List Jvm.Cond) (r0 : Addr) (ab : Addr) (kc : ClassId) (dd0 : Int32) (dd1 : Int32) (dd2 : Int32) (dd3 : Int32) (dd4 : Int32) (dd5 : Int32) (dd6 : Int32) (dd7 : Int32) (h0 : Heap) (n0 : Nat) (Z0 : n0 ≤ h0.size) (F_bytes_r0 : Fld Z h0 r0 "com/example/fair_witness/fairwitness/attestation/DerReader" "bytes" "[B" (.ref ab)) (F_position_r0 : Fld Z h0 r0 "com/example/fair_witness/fairwitness/attestation/DerReader" "position" "I" (.int (6 : Int32))) (F_end_r0 : Fld Z h0 r0 "com/example/fair_witness/fairwitness/attestation/DerReader" "end" "I" (.int (8 : Int32))) (E_r0 : Exa Z h0 r0 "com/example/fair_witness/fairwitness/attestation/DerReader") (g_r0 : n0 ≤ r0) (V_ab : Arv Z h0 ab kc .byte (8 : Int32) [(.int dd0), (.int dd1), (.int dd2), (.int dd3), (.int dd4), (.int dd5), (.int dd6), (.int dd7)] (.int (0 : Int32))) (E_ab : Exa Z h0 ab "[B") (ht : ¬ (((dd6 &&& (255 : Int32)) &&& (31 : Int32)) = (31 : Int32))) (hv7 : (dd7 &&& (255 : Int32)) = (0 : Int32)) :
    MetFree l (⟨"com/example/fair_witness/fairwitness/attestation/DerReader", "readElement", "()[B"⟩ : MethodName) (head1 (Jvm.Cond.code (⟨"com/example/fair_witness/fairwitness/attestation/DerReader", "readElement", "()[B"⟩ : MethodName) prog_10_method_8_code 5 (some (.array .byte)) :: ws) ({ frames := 3, cells := 3, slots := 34, locals := 48 } : Room)) (fun a U => a = #[(.ref r0)] ∧ Z.Warmed39 U.vm ∧ U.heap = h0) (fun _ _ _ _ _ => True) (fun _ U o U' => ∃ v L, o = .returned v ∧ Q11i6_0_8 Z r0 ab kc dd0 dd1 dd2 dd3 dd4 dd5 dd6 dd7 h0 n0 v U'.heap L ∧ ReturnedEndW U o U' L ({ frames := 3, cells := 3, slots := 34, locals := 48 } : Room).cells ({ frames := 3, cells := 3, slots := 34, locals := 48 } : Room).slots) := by
  refine MetFree.of_bodySF (plainFor_of_name pn1) hisR ?_
  intro p e s m args below meth c s₁ Bd hml0 hP hK
  obtain ⟨rfl, hZ, hh⟩ := hP
  have hx := Bd.exec
  have hby := Bd.bytes
  have hml : c.maxLocals = 5 := hml0
  have hown : s.vm.findClass "com/example/fair_witness/fairwitness/attestation/DerReader" = some m.cls := findClass_of_methodNamed Bd.named
  have hnm := (name_of_methodNamed Bd.named Bd.method).1
  have X0 : Stand p l e ({ frames := 3, cells := 3, slots := 34, locals := 48 } : Room) s m #[(.ref r0)] below meth c s₁ [] 0 0 := Stand.of_body Bd
  have e0 : s₁.heap = h0 := by rw [← hh, Bd.state]; rfl
  have N0 := Fr.nil n0
  have pre0 : ∀ t, Steps p.tables e below (s₁.setTop (mkF m 0 #[rv r0, .unset, .unset, .unset, .unset] [])) t → Steps p.tables e below (s₁.setTop (entryFrame m #[(.ref r0)] 5)) t := fun t k => castTop (ef_11i6_0_8 m r0) k
  have hS0 : s.Since s.vm h0.size := (State.WarmedH.refl s).since _
  have pre1 : ∀ t, Steps p.tables e below (s₁.setTop (mkF m 1 #[rv r0, .unset, .unset, .unset, .unset] [(.ref r0)])) t → Steps p.tables e below (s₁.setTop (entryFrame m #[(.ref r0)] 5)) t := by
    intro t kt
    refine pre0 _ ?_
    show Steps p.tables e below (s₁.setTop (mkF m 0 #[rv r0, .unset, .unset, .unset, .unset] [])) _
    refine XS.aloadN X0.here hx rfl (hb hby d11_0) rfl rfl ?_
    exact kt
  obtain ⟨T2, X2, e2, st2⟩ := getF X0 hx hZ hown (host := "") (Or.inl (hw _ (List.mem_of_getElem? (i := 19) rfl))) Via.refl e0 F_position_r0 (g := (mkF m 1 #[rv r0, .unset, .unset, .unset, .unset] [(.ref r0)])) rfl rfl (hb hby d11_1)
  have pre3 : ∀ t, Steps p.tables e below (T2.setTop (mkF m 5 #[rv r0, iv (6 : Int32), .unset, .unset, .unset] [])) t → Steps p.tables e below (s₁.setTop (entryFrame m #[(.ref r0)] 5)) t := by
    intro t kt
    refine pre1 _ ?_
    show Steps p.tables e below (s₁.setTop (mkF m 1 #[rv r0, .unset, .unset, .unset, .unset] [(.ref r0)])) _
    refine st2 _ ?_
    show Steps p.tables e below (T2.setTop (mkF m 4 #[rv r0, .unset, .unset, .unset, .unset] [(.int (6 : Int32))])) _
    refine XS.istoreN X2.here hx rfl (hb hby d11_4) rfl (l' := #[rv r0, iv (6 : Int32), .unset, .unset, .unset]) rfl ?_
    exact kt
  obtain ⟨b4, T4, h4, k4, X4, e4, E4, hS4, hk4, hZ, hown, st4⟩ := ldcS (s := s) (vm0 := s.vm) X2 hx hZ hown (hw _ (List.mem_of_getElem? (i := 62) rfl)) (own_wS hw) e2 hS0 (Nat.le_refl _) (g := (mkF m 5 #[rv r0, iv (6 : Int32), .unset, .unset, .unset] [])) rfl (hb hby d11_5) (n := 28) (by decide +kernel) (by decide) (by decide) (by decide)
  have K4 : Keep h0 h4 [r0] := (Keep.refl h0 [r0]).ext E4
  have pre5 : ∀ t, Steps p.tables e below (T4.setTop (mkF m 11 #[rv r0, iv (6 : Int32), rv b4, .unset, .unset] [(.ref b4), (.int (6 : Int32)), (.ref r0)])) t → Steps p.tables e below (s₁.setTop (entryFrame m #[(.ref r0)] 5)) t := by
    intro t kt
    refine pre3 _ ?_
    show Steps p.tables e below (T2.setTop (mkF m 5 #[rv r0, iv (6 : Int32), .unset, .unset, .unset] [])) _
    refine st4 _ ?_
    show Steps p.tables e below (T4.setTop (mkF m 7 #[rv r0, iv (6 : Int32), .unset, .unset, .unset] [(.ref b4)])) _
    refine XS.astoreN X4.here hx rfl (hb hby d11_7) rfl rfl (l' := #[rv r0, iv (6 : Int32), rv b4, .unset, .unset]) rfl ?_
    refine XS.aloadN X4.here hx rfl (hb hby d11_8) rfl rfl ?_
    refine XS.iloadN X4.here hx rfl (hb hby d11_9) rfl ?_
    refine XS.aloadN X4.here hx rfl (hb hby d11_10) rfl rfl ?_
    exact kt
  obtain ⟨cq6, q6, q6'⟩ := (E_r0.ext E4).cell
  obtain ⟨_, _, ⟨T6, L6, k6, n6⟩, -, X6, ⟨Lc6, hQ6, l6, y6, z6⟩, st6⟩ := X4.privateBack hx (y := (⟨"com/example/fair_witness/fairwitness/attestation/DerReader", "nextByte", "(ILjava/lang/String;)I"⟩ : MethodName)) hown (mvT hZ (hw _ (List.mem_of_getElem? (i := 39) rfl))) (mvT hZ (hw _ (List.mem_of_getElem? (i := 40) rfl))) (own_selp (y := (⟨"com/example/fair_witness/fairwitness/attestation/DerReader", "nextByte", "(ILjava/lang/String;)I"⟩ : MethodName)) (mvT hZ (hw _ (List.mem_of_getElem? (i := 6) rfl))) (Cond.privateMethod_at (mvP hZ (hw _ (List.mem_of_getElem? (i := 41) rfl)) (args := #[]))) (mvT hZ (hw _ (List.mem_of_getElem? (i := 40) rfl))) (by decide)) (Cond.privateMethod_at (mvP hZ (hw _ (List.mem_of_getElem? (i := 41) rfl)) (args := #[]))) (mvT hZ (hw _ (List.mem_of_getElem? (i := 42) rfl))) (by decide) (backOf (W := 0) (rm7i6 l Z a0 hw [] r0 (6 : Int32) b4 ab kc dd0 dd1 dd2 dd3 dd4 dd5 dd6 dd7 (8 : Int32) (dd6 &&& (255 : Int32)) h4 n0 (Nat.le_trans Z0 K4.1) (F_bytes_r0.ext E4) (F_position_r0.ext E4) (F_end_r0.ext E4) (E_r0.ext E4) g_r0 (V_ab.ext E4) (E_ab.ext E4) (by decide) rfl) hZ (hw _ (List.mem_of_getElem? (i := 42) rfl)) (hw _ (List.mem_of_getElem? (i := 7) rfl)) (by decide) (by decide)) (g := (mkF m 11 #[rv r0, iv (6 : Int32), rv b4, .unset, .unset] [(.ref b4), (.int (6 : Int32)), (.ref r0)])) rfl (by rw [hml]; rfl) (Steps.refl _) (a := r0) (by rw [e4]; exact q6) q6' (argsL := [(.int (6 : Int32)), (.ref b4)]) (rest := []) (lenOf pd3 rfl) rfl (by show 2 * 0 + _ ≤ _; exact Nat.le_of_eq rfl) (hb hby d11_11) (fun _ _ => ⟨rfl, e4, (by decide : 2 + 0 ≤ _), (by decide : 32 + 0 ≤ _)⟩)
  dsimp only [Pt.U, Pt.locs, Pt.cells, Pt.slots] at X6 l6 y6 z6 st6 hQ6
  subst l6 y6 z6
  obtain ⟨rfl, N6q, Kc6, Fb_6, Fp_6, Fe_6⟩ := hQ6
  have N6 := Fr.app N0 N6q
  have K6 : Keep h0 T6.heap [r0] := K4.trans Kc6 (allS (Or.inl (List.mem_of_getElem? (i := 0) rfl)) all0)
  have pre7 : ∀ t, Steps p.tables e below (T6.setTop (mkF m 19 #[rv r0, iv (6 : Int32), rv b4, iv (dd6 &&& (255 : Int32)), .unset] [(.ref b4), (.int (dd6 &&& (255 : Int32))), (.int (6 : Int32)), (.ref r0)])) t → Steps p.tables e below (s₁.setTop (entryFrame m #[(.ref r0)] 5)) t := by
    intro t kt
    refine pre5 _ ?_
    show Steps p.tables e below (T4.setTop (mkF m 11 #[rv r0, iv (6 : Int32), rv b4, .unset, .unset] [(.ref b4), (.int (6 : Int32)), (.ref r0)])) _
    refine st6.trans ?_
    show Steps p.tables e below (T6.setTop (mkF m 14 #[rv r0, iv (6 : Int32), rv b4, .unset, .unset] [(.int (dd6 &&& (255 : Int32)))])) _
    refine XS.istoreN X6.here hx rfl (hb hby d11_14) rfl (l' := #[rv r0, iv (6 : Int32), rv b4, iv (dd6 &&& (255 : Int32)), .unset]) rfl ?_
    refine XS.aloadN X6.here hx rfl (hb hby d11_15) rfl rfl ?_
    refine XS.iloadN X6.here hx rfl (hb hby d11_16) rfl ?_
    refine XS.iloadN X6.here hx rfl (hb hby d11_17) rfl ?_
    refine XS.aloadN X6.here hx rfl (hb hby d11_18) rfl rfl ?_
    exact kt
  have f8 := ((V_ab.ext E4).keep Kc6 (ninS (Exa.ne ((E_ab.ext E4).keep Kc6) ((E_r0.ext E4).keep Kc6) (by decide)) nin0))
  have f9 := ((E_ab.ext E4).keep Kc6)
  have f10 := ((E_r0.ext E4).keep Kc6)
  obtain ⟨cq11, q11, q11'⟩ := f10.cell
  obtain ⟨_, _, ⟨T11, L11, k11, n11⟩, -, X11, ⟨Lc11, hQ11, l11, y11, z11⟩, st11⟩ := X6.privateBack hx (y := (⟨"com/example/fair_witness/fairwitness/attestation/DerReader", "readTagNumber", "(IILjava/lang/String;)I"⟩ : MethodName)) hown (mvT hZ (hw _ (List.mem_of_getElem? (i := 63) rfl))) (mvT hZ (hw _ (List.mem_of_getElem? (i := 64) rfl))) (own_selp (y := (⟨"com/example/fair_witness/fairwitness/attestation/DerReader", "readTagNumber", "(IILjava/lang/String;)I"⟩ : MethodName)) (mvT hZ (hw _ (List.mem_of_getElem? (i := 6) rfl))) (Cond.privateMethod_at (mvP hZ (hw _ (List.mem_of_getElem? (i := 65) rfl)) (args := #[]))) (mvT hZ (hw _ (List.mem_of_getElem? (i := 64) rfl))) (by decide)) (Cond.privateMethod_at (mvP hZ (hw _ (List.mem_of_getElem? (i := 65) rfl)) (args := #[]))) (mvT hZ (hw _ (List.mem_of_getElem? (i := 66) rfl))) (by decide) (backOf (W := 0) (rm12 l Z a0 hw [] r0 (6 : Int32) (dd6 &&& (255 : Int32)) b4 T6.heap n0 (Nat.le_trans Z0 K6.1) ht) hZ (hw _ (List.mem_of_getElem? (i := 66) rfl)) (hw _ (List.mem_of_getElem? (i := 7) rfl)) (by decide) (by decide)) (g := (mkF m 19 #[rv r0, iv (6 : Int32), rv b4, iv (dd6 &&& (255 : Int32)), .unset] [(.ref b4), (.int (dd6 &&& (255 : Int32))), (.int (6 : Int32)), (.ref r0)])) rfl (by rw [hml]; rfl) (Steps.refl _) (a := r0) q11 q11' (argsL := [(.int (6 : Int32)), (.int (dd6 &&& (255 : Int32))), (.ref b4)]) (rest := []) (lenOf pd10 rfl) rfl (by show 2 * 0 + _ ≤ _; exact Nat.le_of_eq rfl) (hb hby d11_19) (fun _ _ => ⟨rfl, rfl, (by decide : 2 + 0 ≤ _), (by decide : 32 + 0 ≤ _)⟩)
  dsimp only [Pt.U, Pt.locs, Pt.cells, Pt.slots] at X11 l11 y11 z11 st11 hQ11
  subst l11 y11 z11
  obtain ⟨rfl, N11q, hh11⟩ := hQ11
  have N11 := Fr.app N6 N11q
  have pre12 : ∀ t, Steps p.tables e below (T11.setTop (mkF m 26 #[rv r0, iv (6 : Int32), rv b4, iv (dd6 &&& (255 : Int32)), .unset] [(.ref b4), (.int (6 : Int32)), (.ref r0)])) t → Steps p.tables e below (s₁.setTop (entryFrame m #[(.ref r0)] 5)) t := by
    intro t kt
    refine pre7 _ ?_
    show Steps p.tables e below (T6.setTop (mkF m 19 #[rv r0, iv (6 : Int32), rv b4, iv (dd6 &&& (255 : Int32)), .unset] [(.ref b4), (.int (dd6 &&& (255 : Int32))), (.int (6 : Int32)), (.ref r0)])) _
    refine st11.trans ?_
    show Steps p.tables e below (T11.setTop (mkF m 22 #[rv r0, iv (6 : Int32), rv b4, iv (dd6 &&& (255 : Int32)), .unset] [(.int ((dd6 &&& (255 : Int32)) &&& (31 : Int32)))])) _
    refine XS.pop X11.here hx rfl (hb hby d11_22) rfl rfl ?_
    refine XS.aloadN X11.here hx rfl (hb hby d11_23) rfl rfl ?_
    refine XS.iloadN X11.here hx rfl (hb hby d11_24) rfl ?_
    refine XS.aloadN X11.here hx rfl (hb hby d11_25) rfl rfl ?_
    exact kt
  obtain ⟨cq13, q13, q13'⟩ := f10.cell
  obtain ⟨_, _, ⟨T13, L13, k13, n13⟩, -, X13, ⟨Lc13, hQ13, l13, y13, z13⟩, st13⟩ := X11.privateBack hx (y := (⟨"com/example/fair_witness/fairwitness/attestation/DerReader", "readLength", "(ILjava/lang/String;)I"⟩ : MethodName)) hown (mvT hZ (hw _ (List.mem_of_getElem? (i := 43) rfl))) (mvT hZ (hw _ (List.mem_of_getElem? (i := 44) rfl))) (own_selp (y := (⟨"com/example/fair_witness/fairwitness/attestation/DerReader", "readLength", "(ILjava/lang/String;)I"⟩ : MethodName)) (mvT hZ (hw _ (List.mem_of_getElem? (i := 6) rfl))) (Cond.privateMethod_at (mvP hZ (hw _ (List.mem_of_getElem? (i := 45) rfl)) (args := #[]))) (mvT hZ (hw _ (List.mem_of_getElem? (i := 44) rfl))) (by decide)) (Cond.privateMethod_at (mvP hZ (hw _ (List.mem_of_getElem? (i := 45) rfl)) (args := #[]))) (mvT hZ (hw _ (List.mem_of_getElem? (i := 46) rfl))) (by decide) (backOf (W := 0) (rm8i7 l Z a0 hw [] r0 (6 : Int32) b4 ab kc dd0 dd1 dd2 dd3 dd4 dd5 dd6 dd7 (8 : Int32) (0 : Int32) T6.heap n0 (Nat.le_trans Z0 K6.1) Fb_6 Fp_6 Fe_6 f10 g_r0 f8 f9 (by decide) hv7 (by decide) (by decide) (by decide)) hZ (hw _ (List.mem_of_getElem? (i := 46) rfl)) (hw _ (List.mem_of_getElem? (i := 7) rfl)) (by decide) (by decide)) (g := (mkF m 26 #[rv r0, iv (6 : Int32), rv b4, iv (dd6 &&& (255 : Int32)), .unset] [(.ref b4), (.int (6 : Int32)), (.ref r0)])) rfl (by rw [hml]; rfl) (Steps.refl _) (a := r0) (by rw [hh11]; exact q13) q13' (argsL := [(.int (6 : Int32)), (.ref b4)]) (rest := []) (lenOf pd3 rfl) rfl (by show 2 * 0 + _ ≤ _; exact Nat.le_of_eq rfl) (hb hby d11_26) (fun _ _ => ⟨rfl, hh11, (by decide : 2 + 0 ≤ _), (by decide : 32 + 0 ≤ _)⟩)
  dsimp only [Pt.U, Pt.locs, Pt.cells, Pt.slots] at X13 l13 y13 z13 st13 hQ13
  subst l13 y13 z13
  obtain ⟨rfl, N13q, Kc13, Fb_13, Fp_13, Fe_13⟩ := hQ13
  have N13 := Fr.app N11 N13q
  have K13 : Keep h0 T13.heap [r0] := K6.trans Kc13 (allS (Or.inl (List.mem_of_getElem? (i := 0) rfl)) all0)
  have pre14 : ∀ t, Steps p.tables e below (T13.setTop (mkF m 33 #[rv r0, iv (6 : Int32), rv b4, iv (dd6 &&& (255 : Int32)), iv (0 : Int32)] [(.ref r0), (.ref r0)])) t → Steps p.tables e below (s₁.setTop (entryFrame m #[(.ref r0)] 5)) t := by
    intro t kt
    refine pre12 _ ?_
    show Steps p.tables e below (T11.setTop (mkF m 26 #[rv r0, iv (6 : Int32), rv b4, iv (dd6 &&& (255 : Int32)), .unset] [(.ref b4), (.int (6 : Int32)), (.ref r0)])) _
    refine st13.trans ?_
    show Steps p.tables e below (T13.setTop (mkF m 29 #[rv r0, iv (6 : Int32), rv b4, iv (dd6 &&& (255 : Int32)), .unset] [(.int (0 : Int32))])) _
    refine XS.istore X13.here hx rfl (hb hby d11_29) rfl (l' := #[rv r0, iv (6 : Int32), rv b4, iv (dd6 &&& (255 : Int32)), iv (0 : Int32)]) rfl ?_
    refine XS.aloadN X13.here hx rfl (hb hby d11_31) rfl rfl ?_
    refine XS.dup X13.here hx rfl (hb hby d11_32) rfl rfl ?_
    exact kt
  obtain ⟨T15, X15, e15, st15⟩ := getF X13 hx hZ hown (host := "") (Or.inl (hw _ (List.mem_of_getElem? (i := 19) rfl))) Via.refl rfl Fp_13 (g := (mkF m 33 #[rv r0, iv (6 : Int32), rv b4, iv (dd6 &&& (255 : Int32)), iv (0 : Int32)] [(.ref r0), (.ref r0)])) rfl rfl (hb hby d11_33)
  have pre16 : ∀ t, Steps p.tables e below (T15.setTop (mkF m 39 #[rv r0, iv (6 : Int32), rv b4, iv (dd6 &&& (255 : Int32)), iv (0 : Int32)] [(.int (8 : Int32)), (.ref r0)])) t → Steps p.tables e below (s₁.setTop (entryFrame m #[(.ref r0)] 5)) t := by
    intro t kt
    refine pre14 _ ?_
    show Steps p.tables e below (T13.setTop (mkF m 33 #[rv r0, iv (6 : Int32), rv b4, iv (dd6 &&& (255 : Int32)), iv (0 : Int32)] [(.ref r0), (.ref r0)])) _
    refine st15 _ ?_
    show Steps p.tables e below (T15.setTop (mkF m 36 #[rv r0, iv (6 : Int32), rv b4, iv (dd6 &&& (255 : Int32)), iv (0 : Int32)] [(.int (8 : Int32)), (.ref r0)])) _
    refine XS.iload X15.here hx rfl (hb hby d11_36) rfl ?_
    refine XS.iadd X15.here hx rfl (hb hby d11_38) rfl ?_
    show Steps p.tables e below (T15.setTop (mkF m 39 #[rv r0, iv (6 : Int32), rv b4, iv (dd6 &&& (255 : Int32)), iv (0 : Int32)] [(.int ((8 : Int32) + (0 : Int32))), (.ref r0)])) _
    rw [show ((8 : Int32) + (0 : Int32)) = (8 : Int32) from (by decide)]
    exact kt
  obtain ⟨T17, h17, X17, e17, W17, st17⟩ := putF X15 hx hZ hown (host := "") (Or.inl (hw _ (List.mem_of_getElem? (i := 19) rfl))) Via.refl e15 Fp_13 (f10.keep Kc13) (Or.inl (hw _ (List.mem_of_getElem? (i := 20) rfl))) (hw _ (List.mem_of_getElem? (i := 6) rfl)) (ty := .int) (by decide) rfl rfl (g := (mkF m 39 #[rv r0, iv (6 : Int32), rv b4, iv (dd6 &&& (255 : Int32)), iv (0 : Int32)] [(.int (8 : Int32)), (.ref r0)])) rfl rfl (hb hby d11_39)
  have Fw17 : Fld Z h17 r0 "com/example/fair_witness/fairwitness/attestation/DerReader" "position" "I" (.int (8 : Int32)) := Fp_13.same W17
  have K17 : Keep h0 h17 [r0] := K13.wr W17 (Or.inl (List.mem_of_getElem? (i := 0) rfl))
  have N17 := Fr.snoc X17 N13 g_r0
  have pre18 : ∀ t, Steps p.tables e below (T17.setTop (mkF m 43 #[rv r0, iv (6 : Int32), rv b4, iv (dd6 &&& (255 : Int32)), iv (0 : Int32)] [(.ref r0)])) t → Steps p.tables e below (s₁.setTop (entryFrame m #[(.ref r0)] 5)) t := by
    intro t kt
    refine pre16 _ ?_
    show Steps p.tables e below (T15.setTop (mkF m 39 #[rv r0, iv (6 : Int32), rv b4, iv (dd6 &&& (255 : Int32)), iv (0 : Int32)] [(.int (8 : Int32)), (.ref r0)])) _
    refine st17 _ ?_
    show Steps p.tables e below (T17.setTop (mkF m 42 #[rv r0, iv (6 : Int32), rv b4, iv (dd6 &&& (255 : Int32)), iv (0 : Int32)] [])) _
    refine XS.aloadN X17.here hx rfl (hb hby d11_42) rfl rfl ?_
    exact kt
  obtain ⟨T19, X19, e19, st19⟩ := getF X17 hx hZ hown (host := "") (Or.inl (hw _ (List.mem_of_getElem? (i := 17) rfl))) Via.refl e17 (Fb_13.other W17 (Or.inr (slot_ne (Or.inr (hw _ (List.mem_of_getElem? (i := 18) rfl))) (Or.inl (hw _ (List.mem_of_getElem? (i := 20) rfl))) (by decide) (t := (.array .byte)) (t' := .int) (by decide) (by decide)))) (g := (mkF m 43 #[rv r0, iv (6 : Int32), rv b4, iv (dd6 &&& (255 : Int32)), iv (0 : Int32)] [(.ref r0)])) rfl rfl (hb hby d11_43)
  have pre20 : ∀ t, Steps p.tables e below (T19.setTop (mkF m 48 #[rv r0, iv (6 : Int32), rv b4, iv (dd6 &&& (255 : Int32)), iv (0 : Int32)] [(.ref r0), (.int (6 : Int32)), (.ref ab)])) t → Steps p.tables e below (s₁.setTop (entryFrame m #[(.ref r0)] 5)) t := by
    intro t kt
    refine pre18 _ ?_
    show Steps p.tables e below (T17.setTop (mkF m 43 #[rv r0, iv (6 : Int32), rv b4, iv (dd6 &&& (255 : Int32)), iv (0 : Int32)] [(.ref r0)])) _
    refine st19 _ ?_
    show Steps p.tables e below (T19.setTop (mkF m 46 #[rv r0, iv (6 : Int32), rv b4, iv (dd6 &&& (255 : Int32)), iv (0 : Int32)] [(.ref ab)])) _
    refine XS.iloadN X19.here hx rfl (hb hby d11_46) rfl ?_
    refine XS.aloadN X19.here hx rfl (hb hby d11_47) rfl rfl ?_
    exact kt
  obtain ⟨T21, X21, e21, st21⟩ := getF X19 hx hZ hown (host := "") (Or.inl (hw _ (List.mem_of_getElem? (i := 19) rfl))) Via.refl e19 Fw17 (g := (mkF m 48 #[rv r0, iv (6 : Int32), rv b4, iv (dd6 &&& (255 : Int32)), iv (0 : Int32)] [(.ref r0), (.int (6 : Int32)), (.ref ab)])) rfl rfl (hb hby d11_48)
  have pre22 : ∀ t, Steps p.tables e below (T21.setTop (mkF m 51 #[rv r0, iv (6 : Int32), rv b4, iv (dd6 &&& (255 : Int32)), iv (0 : Int32)] [(.int (8 : Int32)), (.int (6 : Int32)), (.ref ab)])) t → Steps p.tables e below (s₁.setTop (entryFrame m #[(.ref r0)] 5)) t := by
    intro t kt
    refine pre20 _ ?_
    show Steps p.tables e below (T19.setTop (mkF m 48 #[rv r0, iv (6 : Int32), rv b4, iv (dd6 &&& (255 : Int32)), iv (0 : Int32)] [(.ref r0), (.int (6 : Int32)), (.ref ab)])) _
    refine st21 _ ?_
    exact kt
  have f23 := ((f8.keep Kc13 (ninS (Exa.ne ((f9.keep Kc13).wr W17) ((f10.keep Kc13).wr W17) (by decide)) nin0)).other W17 (Exa.ne ((f9.keep Kc13).wr W17) ((f10.keep Kc13).wr W17) (by decide)))
  have f24 := ((f9.keep Kc13).wr W17)
  have f25 := ((f10.keep Kc13).wr W17)
  obtain ⟨_, _, ⟨T26, L26, k26, n26⟩, -, X26, ⟨Lc26, hQ26, l26, y26, z26⟩, st26⟩ := Jvm.LawKit.callS X21 hx (y := (⟨"java/util/Arrays", "copyOfRange", "([BII)[B"⟩ : MethodName)) hown (mvT hZ (hw _ (List.mem_of_getElem? (i := 67) rfl))) (mvT hZ (hw _ (List.mem_of_getElem? (i := 68) rfl))) (mvT hZ (hw _ (List.mem_of_getElem? (i := 69) rfl))) (mvT hZ (hw _ (List.mem_of_getElem? (i := 70) rfl))) (by decide) (backOf (W := 0) (rm13i6_8 l Z a0 hw [] ab kc dd0 dd1 dd2 dd3 dd4 dd5 dd6 dd7 h17 n0 (Nat.le_trans Z0 K17.1) f23) hZ (hw _ (List.mem_of_getElem? (i := 70) rfl)) (hw _ (List.mem_of_getElem? (i := 69) rfl)) (by decide) (by decide)) (g := (mkF m 51 #[rv r0, iv (6 : Int32), rv b4, iv (dd6 &&& (255 : Int32)), iv (0 : Int32)] [(.int (8 : Int32)), (.int (6 : Int32)), (.ref ab)])) rfl (by rw [hml]; rfl) (argsL := [(.ref ab), (.int (6 : Int32)), (.int (8 : Int32))]) (rest := []) (lenOf pd9 rfl) rfl (by show 2 * 0 + _ ≤ _; exact Nat.le_of_eq rfl) (hb hby d11_51) (fun _ _ => ⟨rfl, e21, (by decide : 2 + 1 ≤ _), (by decide : 32 + 2 ≤ _)⟩)
  dsimp only [Pt.U, Pt.locs, Pt.cells, Pt.slots] at X26 l26 y26 z26 st26 hQ26
  subst l26 y26 z26
  obtain ⟨y26, rfl, N26q, Kc26⟩ := hQ26
  have N26 := Fr.app N17 N26q
  have K26 : Keep h0 T26.heap [r0] := K17.trans Kc26 all0
  have pre27 : ∀ t, Steps p.tables e below (T26.setTop (mkF m 54 #[rv r0, iv (6 : Int32), rv b4, iv (dd6 &&& (255 : Int32)), iv (0 : Int32)] [(.ref y26)])) t → Steps p.tables e below (s₁.setTop (entryFrame m #[(.ref r0)] 5)) t := by
    intro t kt
    refine pre22 _ ?_
    show Steps p.tables e below (T21.setTop (mkF m 51 #[rv r0, iv (6 : Int32), rv b4, iv (dd6 &&& (255 : Int32)), iv (0 : Int32)] [(.int (8 : Int32)), (.int (6 : Int32)), (.ref ab)])) _
    refine st26 _ ?_
    exact kt
  obtain ⟨fs, hr, hrun, hended, hRW⟩ := Jvm.Stand.leaveW (s := s) (vm₁ := T4.vm) X26 hS4 (Nat.le_trans (Nat.le_trans (Nat.le_trans (Nat.le_trans hk4 Kc6.1) Kc13.1) (Nat.le_of_eq W17.size.symm)) Kc26.1) (v := some (.ref y26)) (fun h => by rw [Bd.returns] at h; cases h)
  refine ⟨_, _, pre27 _ ?_, hrun, hended, _, _, rfl, ?_, hRW.1, hRW.2.1, hRW.2.2.1, hRW.2.2.2.mono (by decide) (by decide)⟩
  · show Steps p.tables e below (T26.setTop (mkF m 54 #[rv r0, iv (6 : Int32), rv b4, iv (dd6 &&& (255 : Int32)), iv (0 : Int32)] [(.ref y26)])) _
    jvm_step X26.here [X26.here.top, hx, (hb hby d11_54), X26.method', Bd.returns, Value.isRef, FieldType.isReference]
    first | (intro acts; rw [hr _ acts rfl rfl rfl]) | rw [hr _ _ rfl rfl rfl]
    exact Steps.refl _
  · show Q11i6_0_8 Z r0 ab kc dd0 dd1 dd2 dd3 dd4 dd5 dd6 dd7 h0 n0 _ T26.heap _
    exact ⟨y26, rfl, N26, K26, ((Fb_13.other W17 (Or.inr (slot_ne (Or.inr (hw _ (List.mem_of_getElem? (i := 18) rfl))) (Or.inl (hw _ (List.mem_of_getElem? (i := 20) rfl))) (by decide) (t := (.array .byte)) (t' := .int) (by decide) (by decide)))).keep Kc26 nin0), (Fw17.keep Kc26 nin0), ((Fe_13.other W17 (Or.inr (slot_ne (Or.inr (hw _ (List.mem_of_getElem? (i := 22) rfl))) (Or.inl (hw _ (List.mem_of_getElem? (i := 20) rfl))) (by decide) (t := .int) (t' := .int) (by decide) (by decide)))).keep Kc26 nin0)⟩
theorem own_m3 {p : Int32} (h0 : ¬ ((p &&& (3 : Int32)) = (0 : Int32))) (h1 : ¬ ((p &&& (3 : Int32)) = (1 : Int32))) (h2 : ¬ ((p &&& (3 : Int32)) = (2 : Int32))) : (p &&& (3 : Int32)) = (3 : Int32) := by
  have a := c_mask p 3 2 (by decide) (by decide)
  simp only [← Int32.toInt_inj] at h0 h1 h2 ⊢
  have z : (0 : Int32).toInt = 0 ∧ (1 : Int32).toInt = 1 ∧ (2 : Int32).toInt = 2 ∧ (3 : Int32).toInt = 3 := by decide
  omega
theorem pd11 : parseMethodDescriptor "(I)I" = some ⟨[.int], some .int⟩ := by decide +kernel
theorem pd12 : parseMethodDescriptor "([B)V" = some ⟨[(.array .byte)], none⟩ := by decide +kernel
theorem pd13 : parseMethodDescriptor "()Lcom/example/fair_witness/fairwitness/attestation/DerReader;" = some ⟨[], some (.object "com/example/fair_witness/fairwitness/attestation/DerReader")⟩ := by decide +kernel
theorem pd14 : parseMethodDescriptor "()Z" = some ⟨[], some .boolean⟩ := by decide +kernel
theorem pd15 : parseMethodDescriptor "()[B" = some ⟨[], some (.array .byte)⟩ := by decide +kernel
theorem ef_0 (m : MethodId) (x0 : Int32) (x1 : Int32) (x2 : Int32) (x3 : Int32) (x4 : Int32) : entryFrame m #[(.int x0), (.int x1), (.int x2), (.int x3), (.int x4)] maxLocals = mkF m 0 #[.val (.int x0), .val (.int x1), .val (.int x2), .val (.int x3), .val (.int x4), .unset, .unset, .unset, .unset, .unset, .unset, .unset, .unset, .unset, .unset, .unset, .unset] [] := by first | (simp [entryFrame, mkF, argsToLocals, Value.category, maxLocals]; done) | rfl
def Q0 (Z : State) (p0 : Int32) (p1 : Int32) (p2 : Int32) (p3 : Int32) (p4 : Int32) (h0 : Heap) (n0 : Nat) (v : Option Value) (h : Heap) (L : List Loc) : Prop := v = some (.int 1) ∧ Fr n0 L
set_option maxRecDepth 65536 in
set_option maxHeartbeats 40000000 in
theorem rm0 (l : Launch) (Z : State) (a0 : Array Value) (hw : ∀ d ∈ tables_1, d.before a0 Z = true) (ws : List Jvm.Cond) (p0 : Int32) (p1 : Int32) (p2 : Int32) (p3 : Int32) (p4 : Int32) (h0 : Heap) (n0 : Nat) (Z0 : n0 ≤ h0.size) :
    MetFree l x (head1 (Jvm.Cond.code x code maxLocals ret :: ws) room_1) (fun a U => a = #[(.int p0), (.int p1), (.int p2), (.int p3), (.int p4)] ∧ Z.Warmed39 U.vm ∧ U.heap = h0) (fun _ _ _ _ _ => True) (fun _ U o U' => ∃ v L, o = .returned v ∧ Q0 Z p0 p1 p2 p3 p4 h0 n0 v U'.heap L ∧ ReturnedEndW U o U' L room_1.cells room_1.slots) := by
  refine MetFree.of_bodySF (plainFor_of_name pn0) hisR ?_
  intro p e s m args below meth c s₁ Bd hml0 hP hK
  obtain ⟨rfl, hZ, hh⟩ := hP
  have hx := Bd.exec
  have hby := Bd.bytes
  have hml : c.maxLocals = 17 := hml0
  have hown : s.vm.findClass "com/example/fair_witness/fairwitness/attestation/DerReaderHasMorePinLaw" = some m.cls := findClass_of_methodNamed Bd.named
  have hnm := (name_of_methodNamed Bd.named Bd.method).1
  have X0 : Stand p l e room_1 s m #[(.int p0), (.int p1), (.int p2), (.int p3), (.int p4)] below meth c s₁ [] 0 0 := Stand.of_body Bd
  have e0 : s₁.heap = h0 := by rw [← hh, Bd.state]; rfl
  have N0 := Fr.nil n0
  have pre0 : ∀ t, Steps p.tables e below (s₁.setTop (mkF m 0 #[iv p0, iv p1, iv p2, iv p3, iv p4, .unset, .unset, .unset, .unset, .unset, .unset, .unset, .unset, .unset, .unset, .unset, .unset] [])) t → Steps p.tables e below (s₁.setTop (entryFrame m #[(.int p0), (.int p1), (.int p2), (.int p3), (.int p4)] maxLocals)) t := fun t k => castTop (ef_0 m p0 p1 p2 p3 p4) k
  have hS0 : s.Since s.vm h0.size := (State.WarmedH.refl s).since _
  obtain ⟨mm, h_mm⟩ : ∃ z : Int32, z = (p0 &&& (3 : Int32)) := ⟨_, rfl⟩
  have pre1 : ∀ t, Steps p.tables e below (s₁.setTop (mkF m 6 #[iv p0, iv p1, iv p2, iv p3, iv p4, iv mm, .unset, .unset, .unset, .unset, .unset, .unset, .unset, .unset, .unset, .unset, .unset] [(.int p1)])) t → Steps p.tables e below (s₁.setTop (entryFrame m #[(.int p0), (.int p1), (.int p2), (.int p3), (.int p4)] maxLocals)) t := by
    intro t kt
    refine pre0 _ ?_
    show Steps p.tables e below (s₁.setTop (mkF m 0 #[iv p0, iv p1, iv p2, iv p3, iv p4, .unset, .unset, .unset, .unset, .unset, .unset, .unset, .unset, .unset, .unset, .unset, .unset] [])) _
    refine XS.iloadN X0.here hx rfl (hb hby at_0) rfl ?_
    refine XS.iconst X0.here hx rfl (hb hby at_1) ?_
    refine XS.iand X0.here hx rfl (hb hby at_2) rfl ?_
    refine XS.istore X0.here hx rfl (hb hby at_3) rfl (l' := #[iv p0, iv p1, iv p2, iv p3, iv p4, iv (p0 &&& (3 : Int32)), .unset, .unset, .unset, .unset, .unset, .unset, .unset, .unset, .unset, .unset, .unset]) rfl ?_
    show Steps p.tables e below (s₁.setTop (mkF m 5 #[iv p0, iv p1, iv p2, iv p3, iv p4, iv (p0 &&& (3 : Int32)), .unset, .unset, .unset, .unset, .unset, .unset, .unset, .unset, .unset, .unset, .unset] [])) _
    rw [← h_mm]
    show Steps p.tables e below (s₁.setTop (mkF m 5 #[iv p0, iv p1, iv p2, iv p3, iv p4, iv mm, .unset, .unset, .unset, .unset, .unset, .unset, .unset, .unset, .unset, .unset, .unset] [])) _
    refine XS.iloadN X0.here hx rfl (hb hby at_5) rfl ?_
    exact kt
  obtain ⟨_, _, ⟨T2, L2, k2, n2⟩, -, X2, ⟨Lc2, hQ2, l2, y2, z2⟩, st2⟩ := Jvm.LawKit.callS X0 hx (y := (⟨"com/example/fair_witness/fairwitness/attestation/DerReaderHasMorePinLaw", "tag", "(I)I"⟩ : MethodName)) hown (mvT hZ (hw _ (List.mem_of_getElem? (i := 0) rfl))) (mvT hZ (hw _ (List.mem_of_getElem? (i := 1) rfl))) (mvT hZ (hw _ (List.mem_of_getElem? (i := 2) rfl))) (mvT hZ (hw _ (List.mem_of_getElem? (i := 3) rfl))) (by decide) (backOf (W := 0) (rm1 l Z a0 hw [] p1 h0 n0 (Nat.le_trans Z0 (Keep.refl h0 []).1)) hZ (hw _ (List.mem_of_getElem? (i := 3) rfl)) (hw _ (List.mem_of_getElem? (i := 2) rfl)) (by decide) (by decide)) (g := (mkF m 6 #[iv p0, iv p1, iv p2, iv p3, iv p4, iv mm, .unset, .unset, .unset, .unset, .unset, .unset, .unset, .unset, .unset, .unset, .unset] [(.int p1)])) rfl (by rw [hml]; rfl) (argsL := [(.int p1)]) (rest := []) (lenOf pd11 rfl) rfl (by show 2 * 0 + _ ≤ _; exact Nat.le_of_eq rfl) (hb hby at_6) (fun _ _ => ⟨rfl, e0, (by decide : 0 + 0 ≤ _), (by decide : 0 + 0 ≤ _)⟩)
  dsimp only [Pt.U, Pt.locs, Pt.cells, Pt.slots] at X2 l2 y2 z2 st2 hQ2
  subst l2 y2 z2
  obtain ⟨rfl, N2q, hh2⟩ := hQ2
  have N2 := Fr.app N0 N2q
  obtain ⟨tA, h_tA⟩ : ∃ z : Int32, z = ((own_tag p1).toInt8.toInt32) := ⟨_, rfl⟩
  have pre3 : ∀ t, Steps p.tables e below (T2.setTop (mkF m 13 #[iv p0, iv p1, iv p2, iv p3, iv p4, iv mm, iv tA, .unset, .unset, .unset, .unset, .unset, .unset, .unset, .unset, .unset, .unset] [(.int p2)])) t → Steps p.tables e below (s₁.setTop (entryFrame m #[(.int p0), (.int p1), (.int p2), (.int p3), (.int p4)] maxLocals)) t := by
    intro t kt
    refine pre1 _ ?_
    show Steps p.tables e below (s₁.setTop (mkF m 6 #[iv p0, iv p1, iv p2, iv p3, iv p4, iv mm, .unset, .unset, .unset, .unset, .unset, .unset, .unset, .unset, .unset, .unset, .unset] [(.int p1)])) _
    refine st2 _ ?_
    show Steps p.tables e below (T2.setTop (mkF m 9 #[iv p0, iv p1, iv p2, iv p3, iv p4, iv mm, .unset, .unset, .unset, .unset, .unset, .unset, .unset, .unset, .unset, .unset, .unset] [(.int (own_tag p1))])) _
    refine XS.i2b X2.here hx rfl (hb hby at_9) rfl ?_
    refine XS.istore X2.here hx rfl (hb hby at_10) rfl (l' := #[iv p0, iv p1, iv p2, iv p3, iv p4, iv mm, iv ((own_tag p1).toInt8.toInt32), .unset, .unset, .unset, .unset, .unset, .unset, .unset, .unset, .unset, .unset]) rfl ?_
    show Steps p.tables e below (T2.setTop (mkF m 12 #[iv p0, iv p1, iv p2, iv p3, iv p4, iv mm, iv ((own_tag p1).toInt8.toInt32), .unset, .unset, .unset, .unset, .unset, .unset, .unset, .unset, .unset, .unset] [])) _
    rw [← h_tA]
    show Steps p.tables e below (T2.setTop (mkF m 12 #[iv p0, iv p1, iv p2, iv p3, iv p4, iv mm, iv tA, .unset, .unset, .unset, .unset, .unset, .unset, .unset, .unset, .unset, .unset] [])) _
    refine XS.iloadN X2.here hx rfl (hb hby at_12) rfl ?_
    exact kt
  obtain ⟨_, _, ⟨T4, L4, k4, n4⟩, -, X4, ⟨Lc4, hQ4, l4, y4, z4⟩, st4⟩ := Jvm.LawKit.callS X2 hx (y := (⟨"com/example/fair_witness/fairwitness/attestation/DerReaderHasMorePinLaw", "tag", "(I)I"⟩ : MethodName)) hown (mvT hZ (hw _ (List.mem_of_getElem? (i := 0) rfl))) (mvT hZ (hw _ (List.mem_of_getElem? (i := 1) rfl))) (mvT hZ (hw _ (List.mem_of_getElem? (i := 2) rfl))) (mvT hZ (hw _ (List.mem_of_getElem? (i := 3) rfl))) (by decide) (backOf (W := 0) (rm1 l Z a0 hw [] p2 h0 n0 (Nat.le_trans Z0 (Keep.refl h0 []).1)) hZ (hw _ (List.mem_of_getElem? (i := 3) rfl)) (hw _ (List.mem_of_getElem? (i := 2) rfl)) (by decide) (by decide)) (g := (mkF m 13 #[iv p0, iv p1, iv p2, iv p3, iv p4, iv mm, iv tA, .unset, .unset, .unset, .unset, .unset, .unset, .unset, .unset, .unset, .unset] [(.int p2)])) rfl (by rw [hml]; rfl) (argsL := [(.int p2)]) (rest := []) (lenOf pd11 rfl) rfl (by show 2 * 0 + _ ≤ _; exact Nat.le_of_eq rfl) (hb hby at_13) (fun _ _ => ⟨rfl, hh2, (by decide : 0 + 0 ≤ _), (by decide : 0 + 0 ≤ _)⟩)
  dsimp only [Pt.U, Pt.locs, Pt.cells, Pt.slots] at X4 l4 y4 z4 st4 hQ4
  subst l4 y4 z4
  obtain ⟨rfl, N4q, hh4⟩ := hQ4
  have N4 := Fr.app N2 N4q
  obtain ⟨tB, h_tB⟩ : ∃ z : Int32, z = ((own_tag p2).toInt8.toInt32) := ⟨_, rfl⟩
  have pre5 : ∀ t, Steps p.tables e below (T4.setTop (mkF m 20 #[iv p0, iv p1, iv p2, iv p3, iv p4, iv mm, iv tA, iv tB, .unset, .unset, .unset, .unset, .unset, .unset, .unset, .unset, .unset] [(.int p3)])) t → Steps p.tables e below (s₁.setTop (entryFrame m #[(.int p0), (.int p1), (.int p2), (.int p3), (.int p4)] maxLocals)) t := by
    intro t kt
    refine pre3 _ ?_
    show Steps p.tables e below (T2.setTop (mkF m 13 #[iv p0, iv p1, iv p2, iv p3, iv p4, iv mm, iv tA, .unset, .unset, .unset, .unset, .unset, .unset, .unset, .unset, .unset, .unset] [(.int p2)])) _
    refine st4 _ ?_
    show Steps p.tables e below (T4.setTop (mkF m 16 #[iv p0, iv p1, iv p2, iv p3, iv p4, iv mm, iv tA, .unset, .unset, .unset, .unset, .unset, .unset, .unset, .unset, .unset, .unset] [(.int (own_tag p2))])) _
    refine XS.i2b X4.here hx rfl (hb hby at_16) rfl ?_
    refine XS.istore X4.here hx rfl (hb hby at_17) rfl (l' := #[iv p0, iv p1, iv p2, iv p3, iv p4, iv mm, iv tA, iv ((own_tag p2).toInt8.toInt32), .unset, .unset, .unset, .unset, .unset, .unset, .unset, .unset, .unset]) rfl ?_
    show Steps p.tables e below (T4.setTop (mkF m 19 #[iv p0, iv p1, iv p2, iv p3, iv p4, iv mm, iv tA, iv ((own_tag p2).toInt8.toInt32), .unset, .unset, .unset, .unset, .unset, .unset, .unset, .unset, .unset] [])) _
    rw [← h_tB]
    show Steps p.tables e below (T4.setTop (mkF m 19 #[iv p0, iv p1, iv p2, iv p3, iv p4, iv mm, iv tA, iv tB, .unset, .unset, .unset, .unset, .unset, .unset, .unset, .unset, .unset] [])) _
    refine XS.iloadN X4.here hx rfl (hb hby at_19) rfl ?_
    exact kt
  obtain ⟨_, _, ⟨T6, L6, k6, n6⟩, -, X6, ⟨Lc6, hQ6, l6, y6, z6⟩, st6⟩ := Jvm.LawKit.callS X4 hx (y := (⟨"com/example/fair_witness/fairwitness/attestation/DerReaderHasMorePinLaw", "tag", "(I)I"⟩ : MethodName)) hown (mvT hZ (hw _ (List.mem_of_getElem? (i := 0) rfl))) (mvT hZ (hw _ (List.mem_of_getElem? (i := 1) rfl))) (mvT hZ (hw _ (List.mem_of_getElem? (i := 2) rfl))) (mvT hZ (hw _ (List.mem_of_getElem? (i := 3) rfl))) (by decide) (backOf (W := 0) (rm1 l Z a0 hw [] p3 h0 n0 (Nat.le_trans Z0 (Keep.refl h0 []).1)) hZ (hw _ (List.mem_of_getElem? (i := 3) rfl)) (hw _ (List.mem_of_getElem? (i := 2) rfl)) (by decide) (by decide)) (g := (mkF m 20 #[iv p0, iv p1, iv p2, iv p3, iv p4, iv mm, iv tA, iv tB, .unset, .unset, .unset, .unset, .unset, .unset, .unset, .unset, .unset] [(.int p3)])) rfl (by rw [hml]; rfl) (argsL := [(.int p3)]) (rest := []) (lenOf pd11 rfl) rfl (by show 2 * 0 + _ ≤ _; exact Nat.le_of_eq rfl) (hb hby at_20) (fun _ _ => ⟨rfl, hh4, (by decide : 0 + 0 ≤ _), (by decide : 0 + 0 ≤ _)⟩)
  dsimp only [Pt.U, Pt.locs, Pt.cells, Pt.slots] at X6 l6 y6 z6 st6 hQ6
  subst l6 y6 z6
  obtain ⟨rfl, N6q, hh6⟩ := hQ6
  have N6 := Fr.app N4 N6q
  obtain ⟨tT, h_tT⟩ : ∃ z : Int32, z = ((own_tag p3).toInt8.toInt32) := ⟨_, rfl⟩
  obtain ⟨c0, h_c0⟩ : ∃ z : Int32, z = (p4.toInt8.toInt32) := ⟨_, rfl⟩
  obtain ⟨c1, h_c1⟩ : ∃ z : Int32, z = ((p4 >>> ((8 : Int32) &&& 31)).toInt8.toInt32) := ⟨_, rfl⟩
  obtain ⟨c2, h_c2⟩ : ∃ z : Int32, z = ((p4 >>> ((16 : Int32) &&& 31)).toInt8.toInt32) := ⟨_, rfl⟩
  obtain ⟨c3, h_c3⟩ : ∃ z : Int32, z = ((p4 >>> ((24 : Int32) &&& 31)).toInt8.toInt32) := ⟨_, rfl⟩
  have pre7 : ∀ t, Steps p.tables e below (T6.setTop (mkF m 57 #[iv p0, iv p1, iv p2, iv p3, iv p4, iv mm, iv tA, iv tB, iv tT, iv c0, iv c1, iv c2, iv c3, .unset, .unset, .unset, .unset] [(.int (8 : Int32))])) t → Steps p.tables e below (s₁.setTop (entryFrame m #[(.int p0), (.int p1), (.int p2), (.int p3), (.int p4)] maxLocals)) t := by
    intro t kt
    refine pre5 _ ?_
    show Steps p.tables e below (T4.setTop (mkF m 20 #[iv p0, iv p1, iv p2, iv p3, iv p4, iv mm, iv tA, iv tB, .unset, .unset, .unset, .unset, .unset, .unset, .unset, .unset, .unset] [(.int p3)])) _
    refine st6 _ ?_
    show Steps p.tables e below (T6.setTop (mkF m 23 #[iv p0, iv p1, iv p2, iv p3, iv p4, iv mm, iv tA, iv tB, .unset, .unset, .unset, .unset, .unset, .unset, .unset, .unset, .unset] [(.int (own_tag p3))])) _
    refine XS.i2b X6.here hx rfl (hb hby at_23) rfl ?_
    refine XS.istore X6.here hx rfl (hb hby at_24) rfl (l' := #[iv p0, iv p1, iv p2, iv p3, iv p4, iv mm, iv tA, iv tB, iv ((own_tag p3).toInt8.toInt32), .unset, .unset, .unset, .unset, .unset, .unset, .unset, .unset]) rfl ?_
    show Steps p.tables e below (T6.setTop (mkF m 26 #[iv p0, iv p1, iv p2, iv p3, iv p4, iv mm, iv tA, iv tB, iv ((own_tag p3).toInt8.toInt32), .unset, .unset, .unset, .unset, .unset, .unset, .unset, .unset] [])) _
    rw [← h_tT]
    show Steps p.tables e below (T6.setTop (mkF m 26 #[iv p0, iv p1, iv p2, iv p3, iv p4, iv mm, iv tA, iv tB, iv tT, .unset, .unset, .unset, .unset, .unset, .unset, .unset, .unset] [])) _
    refine XS.iload X6.here hx rfl (hb hby at_26) rfl ?_
    refine XS.i2b X6.here hx rfl (hb hby at_28) rfl ?_
    refine XS.istore X6.here hx rfl (hb hby at_29) rfl (l' := #[iv p0, iv p1, iv p2, iv p3, iv p4, iv mm, iv tA, iv tB, iv tT, iv (p4.toInt8.toInt32), .unset, .unset, .unset, .unset, .unset, .unset, .unset]) rfl ?_
    show Steps p.tables e below (T6.setTop (mkF m 31 #[iv p0, iv p1, iv p2, iv p3, iv p4, iv mm, iv tA, iv tB, iv tT, iv (p4.toInt8.toInt32), .unset, .unset, .unset, .unset, .unset, .unset, .unset] [])) _
    rw [← h_c0]
    show Steps p.tables e below (T6.setTop (mkF m 31 #[iv p0, iv p1, iv p2, iv p3, iv p4, iv mm, iv tA, iv tB, iv tT, iv c0, .unset, .unset, .unset, .unset, .unset, .unset, .unset] [])) _
    refine XS.iload X6.here hx rfl (hb hby at_31) rfl ?_
    refine XS.bipush X6.here hx rfl (hb hby at_33) ?_
    refine XS.ishr X6.here hx rfl (hb hby at_35) rfl ?_
    refine XS.i2b X6.here hx rfl (hb hby at_36) rfl ?_
    refine XS.istore X6.here hx rfl (hb hby at_37) rfl (l' := #[iv p0, iv p1, iv p2, iv p3, iv p4, iv mm, iv tA, iv tB, iv tT, iv c0, iv ((p4 >>> ((8 : Int32) &&& 31)).toInt8.toInt32), .unset, .unset, .unset, .unset, .unset, .unset]) rfl ?_
    show Steps p.tables e below (T6.setTop (mkF m 39 #[iv p0, iv p1, iv p2, iv p3, iv p4, iv mm, iv tA, iv tB, iv tT, iv c0, iv ((p4 >>> ((8 : Int32) &&& 31)).toInt8.toInt32), .unset, .unset, .unset, .unset, .unset, .unset] [])) _
    rw [← h_c1]
    show Steps p.tables e below (T6.setTop (mkF m 39 #[iv p0, iv p1, iv p2, iv p3, iv p4, iv mm, iv tA, iv tB, iv tT, iv c0, iv c1, .unset, .unset, .unset, .unset, .unset, .unset] [])) _
    refine XS.iload X6.here hx rfl (hb hby at_39) rfl ?_
    refine XS.bipush X6.here hx rfl (hb hby at_41) ?_
    refine XS.ishr X6.here hx rfl (hb hby at_43) rfl ?_
    refine XS.i2b X6.here hx rfl (hb hby at_44) rfl ?_
    refine XS.istore X6.here hx rfl (hb hby at_45) rfl (l' := #[iv p0, iv p1, iv p2, iv p3, iv p4, iv mm, iv tA, iv tB, iv tT, iv c0, iv c1, iv ((p4 >>> ((16 : Int32) &&& 31)).toInt8.toInt32), .unset, .unset, .unset, .unset, .unset]) rfl ?_
    show Steps p.tables e below (T6.setTop (mkF m 47 #[iv p0, iv p1, iv p2, iv p3, iv p4, iv mm, iv tA, iv tB, iv tT, iv c0, iv c1, iv ((p4 >>> ((16 : Int32) &&& 31)).toInt8.toInt32), .unset, .unset, .unset, .unset, .unset] [])) _
    rw [← h_c2]
    show Steps p.tables e below (T6.setTop (mkF m 47 #[iv p0, iv p1, iv p2, iv p3, iv p4, iv mm, iv tA, iv tB, iv tT, iv c0, iv c1, iv c2, .unset, .unset, .unset, .unset, .unset] [])) _
    refine XS.iload X6.here hx rfl (hb hby at_47) rfl ?_
    refine XS.bipush X6.here hx rfl (hb hby at_49) ?_
    refine XS.ishr X6.here hx rfl (hb hby at_51) rfl ?_
    refine XS.i2b X6.here hx rfl (hb hby at_52) rfl ?_
    refine XS.istore X6.here hx rfl (hb hby at_53) rfl (l' := #[iv p0, iv p1, iv p2, iv p3, iv p4, iv mm, iv tA, iv tB, iv tT, iv c0, iv c1, iv c2, iv ((p4 >>> ((24 : Int32) &&& 31)).toInt8.toInt32), .unset, .unset, .unset, .unset]) rfl ?_
    show Steps p.tables e below (T6.setTop (mkF m 55 #[iv p0, iv p1, iv p2, iv p3, iv p4, iv mm, iv tA, iv tB, iv tT, iv c0, iv c1, iv c2, iv ((p4 >>> ((24 : Int32) &&& 31)).toInt8.toInt32), .unset, .unset, .unset, .unset] [])) _
    rw [← h_c3]
    show Steps p.tables e below (T6.setTop (mkF m 55 #[iv p0, iv p1, iv p2, iv p3, iv p4, iv mm, iv tA, iv tB, iv tT, iv c0, iv c1, iv c2, iv c3, .unset, .unset, .unset, .unset] [])) _
    refine XS.bipush X6.here hx rfl (hb hby at_55) ?_
    exact kt
  obtain ⟨T8, h8, k8, X8, e8, E8, A8, Ex8, st8⟩ := newPE X6 hx hZ (hw _ (List.mem_of_getElem? (i := 4) rfl)) hh6 (g := (mkF m 57 #[iv p0, iv p1, iv p2, iv p3, iv p4, iv mm, iv tA, iv tB, iv tT, iv c0, iv c1, iv c2, iv c3, .unset, .unset, .unset, .unset] [(.int (8 : Int32))])) rfl (hb hby at_57) rfl (by decide) (cap := 8) (by decide) (by decide) (by decide) (by decide) (ad := "[B") rfl
  obtain ⟨b8, g8⟩ : ∃ z, z = h0.size := ⟨_, rfl⟩
  rw [← g8] at A8 Ex8 st8
  have g_b8 : n0 ≤ b8 := Nat.le_trans (Nat.le_trans Z0 (Keep.refl h0 []).1) (Nat.le_of_eq g8.symm)
  have sz_b8 : h0.size ≤ b8 := Nat.le_trans (Keep.refl h0 []).1 (Nat.le_of_eq g8.symm)
  have V_b8 : Arv Z h8 b8 k8 .byte (8 : Int32) [(.int (0 : Int32)), (.int (0 : Int32)), (.int (0 : Int32)), (.int (0 : Int32)), (.int (0 : Int32)), (.int (0 : Int32)), (.int (0 : Int32)), (.int (0 : Int32))] (.int (0 : Int32)) := (Arv.new A8 (by decide)).pad (pad_rep [] (.int (0 : Int32)) 8)
  have K8 : Keep h0 h8 [] := (Keep.refl h0 []).ext E8
  have pre9 : ∀ t, Steps p.tables e below (T8.setTop (mkF m 66 #[iv p0, iv p1, iv p2, iv p3, iv p4, iv mm, iv tA, iv tB, iv tT, iv c0, iv c1, iv c2, iv c3, rv b8, .unset, .unset, .unset] [(.int (48 : Int32)), (.int (0 : Int32)), (.ref b8)])) t → Steps p.tables e below (s₁.setTop (entryFrame m #[(.int p0), (.int p1), (.int p2), (.int p3), (.int p4)] maxLocals)) t := by
    intro t kt
    refine pre7 _ ?_
    show Steps p.tables e below (T6.setTop (mkF m 57 #[iv p0, iv p1, iv p2, iv p3, iv p4, iv mm, iv tA, iv tB, iv tT, iv c0, iv c1, iv c2, iv c3, .unset, .unset, .unset, .unset] [(.int (8 : Int32))])) _
    refine st8 _ ?_
    show Steps p.tables e below (T8.setTop (mkF m 59 #[iv p0, iv p1, iv p2, iv p3, iv p4, iv mm, iv tA, iv tB, iv tT, iv c0, iv c1, iv c2, iv c3, .unset, .unset, .unset, .unset] [(.ref b8)])) _
    refine XS.astore X8.here hx rfl (hb hby at_59) rfl rfl (l' := #[iv p0, iv p1, iv p2, iv p3, iv p4, iv mm, iv tA, iv tB, iv tT, iv c0, iv c1, iv c2, iv c3, rv b8, .unset, .unset, .unset]) rfl ?_
    refine XS.aload X8.here hx rfl (hb hby at_61) rfl rfl ?_
    refine XS.iconst X8.here hx rfl (hb hby at_63) ?_
    refine XS.bipush X8.here hx rfl (hb hby at_64) ?_
    exact kt
  obtain ⟨cl10, Ar10, q10, S10, M10, H10, G10⟩ := id V_b8
  have hin10 : ¬ ((0 : Int32) < 0 ∨ cl10.slots.size ≤ ((0 : Int32)).toNatClampNeg) := inb_of S10 ⟨by decide, by decide⟩
  obtain ⟨T10, h10, X10, e10, W10, st10⟩ := stB X8 hx hZ e8 Ar10 (j := (0 : Int32)) hin10 (g := (mkF m 66 #[iv p0, iv p1, iv p2, iv p3, iv p4, iv mm, iv tA, iv tB, iv tT, iv c0, iv c1, iv c2, iv c3, rv b8, .unset, .unset, .unset] [(.int (48 : Int32)), (.int (0 : Int32)), (.ref b8)])) rfl rfl (hb hby at_66)
  have nn10 : nar .byte (48 : Int32) = (48 : Int32) := (by decide)
  rw [nn10] at W10
  have V10 : Arv Z h10 b8 k8 .byte (8 : Int32) [(.int (48 : Int32)), (.int (0 : Int32)), (.int (0 : Int32)), (.int (0 : Int32)), (.int (0 : Int32)), (.int (0 : Int32)), (.int (0 : Int32)), (.int (0 : Int32))] (.int (0 : Int32)) := Arv.set Ar10 q10 S10 M10 H10 G10 (own_fb nn10) W10 0 rfl (Nat.le_of_ble_eq_true rfl)
  have K10 : Keep h0 h10 [] := K8.wr W10 (Or.inr sz_b8)
  have N10 := Fr.snoc X10 N6 g_b8
  have pre11 : ∀ t, Steps p.tables e below (T10.setTop (mkF m 69 #[iv p0, iv p1, iv p2, iv p3, iv p4, iv mm, iv tA, iv tB, iv tT, iv c0, iv c1, iv c2, iv c3, rv b8, .unset, .unset, .unset] [(.int mm)])) t → Steps p.tables e below (s₁.setTop (entryFrame m #[(.int p0), (.int p1), (.int p2), (.int p3), (.int p4)] maxLocals)) t := by
    intro t kt
    refine pre9 _ ?_
    show Steps p.tables e below (T8.setTop (mkF m 66 #[iv p0, iv p1, iv p2, iv p3, iv p4, iv mm, iv tA, iv tB, iv tT, iv c0, iv c1, iv c2, iv c3, rv b8, .unset, .unset, .unset] [(.int (48 : Int32)), (.int (0 : Int32)), (.ref b8)])) _
    refine st10 _ ?_
    show Steps p.tables e below (T10.setTop (mkF m 67 #[iv p0, iv p1, iv p2, iv p3, iv p4, iv mm, iv tA, iv tB, iv tT, iv c0, iv c1, iv c2, iv c3, rv b8, .unset, .unset, .unset] [])) _
    refine XS.iload X10.here hx rfl (hb hby at_67) rfl ?_
    exact kt
  by_cases hc69 : mm = (0 : Int32)
  · have pre12 : ∀ t, Steps p.tables e below (T10.setTop (mkF m 76 #[iv p0, iv p1, iv p2, iv p3, iv p4, iv mm, iv tA, iv tB, iv tT, iv c0, iv c1, iv c2, iv c3, rv b8, .unset, .unset, .unset] [(.int (0 : Int32)), (.int (1 : Int32)), (.ref b8)])) t → Steps p.tables e below (s₁.setTop (entryFrame m #[(.int p0), (.int p1), (.int p2), (.int p3), (.int p4)] maxLocals)) t := by
      intro t kt
      refine pre11 _ ?_
      show Steps p.tables e below (T10.setTop (mkF m 69 #[iv p0, iv p1, iv p2, iv p3, iv p4, iv mm, iv tA, iv tB, iv tT, iv c0, iv c1, iv c2, iv c3, rv b8, .unset, .unset, .unset] [(.int mm)])) _
      refine XS.ifNo X10.here hx rfl (hb hby at_69) rfl ((if0 _ _).trans (teq hc69).2) ?_
      refine XS.aload X10.here hx rfl (hb hby at_72) rfl rfl ?_
      refine XS.iconst X10.here hx rfl (hb hby at_74) ?_
      refine XS.iconst X10.here hx rfl (hb hby at_75) ?_
      exact kt
    obtain ⟨cl13, Ar13, q13, S13, M13, H13, G13⟩ := id V10
    have hin13 : ¬ ((1 : Int32) < 0 ∨ cl13.slots.size ≤ ((1 : Int32)).toNatClampNeg) := inb_of S13 ⟨by decide, by decide⟩
    obtain ⟨T13, h13, X13, e13, W13, st13⟩ := stB X10 hx hZ e10 Ar13 (j := (1 : Int32)) hin13 (g := (mkF m 76 #[iv p0, iv p1, iv p2, iv p3, iv p4, iv mm, iv tA, iv tB, iv tT, iv c0, iv c1, iv c2, iv c3, rv b8, .unset, .unset, .unset] [(.int (0 : Int32)), (.int (1 : Int32)), (.ref b8)])) rfl rfl (hb hby at_76)
    have nn13 : nar .byte (0 : Int32) = (0 : Int32) := (by decide)
    rw [nn13] at W13
    have V13 : Arv Z h13 b8 k8 .byte (8 : Int32) [(.int (48 : Int32)), (.int (0 : Int32)), (.int (0 : Int32)), (.int (0 : Int32)), (.int (0 : Int32)), (.int (0 : Int32)), (.int (0 : Int32)), (.int (0 : Int32))] (.int (0 : Int32)) := Arv.set Ar13 q13 S13 M13 H13 G13 (own_fb nn13) W13 1 rfl (Nat.le_of_ble_eq_true rfl)
    have K13 : Keep h0 h13 [] := K10.wr W13 (Or.inr sz_b8)
    have N13 := Fr.snoc X13 N10 g_b8
    have pre14 : ∀ t, Steps p.tables e below (T13.setTop (mkF m 82 #[iv p0, iv p1, iv p2, iv p3, iv p4, iv mm, iv tA, iv tB, iv tT, iv c0, iv c1, iv c2, iv c3, rv b8, .unset, .unset, .unset] [(.int tT), (.int (2 : Int32)), (.ref b8)])) t → Steps p.tables e below (s₁.setTop (entryFrame m #[(.int p0), (.int p1), (.int p2), (.int p3), (.int p4)] maxLocals)) t := by
      intro t kt
      refine pre12 _ ?_
      show Steps p.tables e below (T10.setTop (mkF m 76 #[iv p0, iv p1, iv p2, iv p3, iv p4, iv mm, iv tA, iv tB, iv tT, iv c0, iv c1, iv c2, iv c3, rv b8, .unset, .unset, .unset] [(.int (0 : Int32)), (.int (1 : Int32)), (.ref b8)])) _
      refine st13 _ ?_
      show Steps p.tables e below (T13.setTop (mkF m 77 #[iv p0, iv p1, iv p2, iv p3, iv p4, iv mm, iv tA, iv tB, iv tT, iv c0, iv c1, iv c2, iv c3, rv b8, .unset, .unset, .unset] [])) _
      refine XS.aload X13.here hx rfl (hb hby at_77) rfl rfl ?_
      refine XS.iconst X13.here hx rfl (hb hby at_79) ?_
      refine XS.iload X13.here hx rfl (hb hby at_80) rfl ?_
      exact kt
    obtain ⟨cl15, Ar15, q15, S15, M15, H15, G15⟩ := id V13
    have hin15 : ¬ ((2 : Int32) < 0 ∨ cl15.slots.size ≤ ((2 : Int32)).toNatClampNeg) := inb_of S15 ⟨by decide, by decide⟩
    obtain ⟨T15, h15, X15, e15, W15, st15⟩ := stB X13 hx hZ e13 Ar15 (j := (2 : Int32)) hin15 (g := (mkF m 82 #[iv p0, iv p1, iv p2, iv p3, iv p4, iv mm, iv tA, iv tB, iv tT, iv c0, iv c1, iv c2, iv c3, rv b8, .unset, .unset, .unset] [(.int tT), (.int (2 : Int32)), (.ref b8)])) rfl rfl (hb hby at_82)
    have nn15 : nar .byte tT = tT := (by rw [h_tT]; exact own_nb _)
    rw [nn15] at W15
    have V15 : Arv Z h15 b8 k8 .byte (8 : Int32) [(.int (48 : Int32)), (.int (0 : Int32)), (.int tT), (.int (0 : Int32)), (.int (0 : Int32)), (.int (0 : Int32)), (.int (0 : Int32)), (.int (0 : Int32))] (.int (0 : Int32)) := Arv.set Ar15 q15 S15 M15 H15 G15 (own_fb nn15) W15 2 rfl (Nat.le_of_ble_eq_true rfl)
    have K15 : Keep h0 h15 [] := K13.wr W15 (Or.inr sz_b8)
    have N15 := Fr.snoc X15 N13 g_b8
    have pre16 : ∀ t, Steps p.tables e below (T15.setTop (mkF m 87 #[iv p0, iv p1, iv p2, iv p3, iv p4, iv mm, iv tA, iv tB, iv tT, iv c0, iv c1, iv c2, iv c3, rv b8, .unset, .unset, .unset] [(.int (4 : Int32)), (.int (3 : Int32)), (.ref b8)])) t → Steps p.tables e below (s₁.setTop (entryFrame m #[(.int p0), (.int p1), (.int p2), (.int p3), (.int p4)] maxLocals)) t := by
      intro t kt
      refine pre14 _ ?_
      show Steps p.tables e below (T13.setTop (mkF m 82 #[iv p0, iv p1, iv p2, iv p3, iv p4, iv mm, iv tA, iv tB, iv tT, iv c0, iv c1, iv c2, iv c3, rv b8, .unset, .unset, .unset] [(.int tT), (.int (2 : Int32)), (.ref b8)])) _
      refine st15 _ ?_
      show Steps p.tables e below (T15.setTop (mkF m 83 #[iv p0, iv p1, iv p2, iv p3, iv p4, iv mm, iv tA, iv tB, iv tT, iv c0, iv c1, iv c2, iv c3, rv b8, .unset, .unset, .unset] [])) _
      refine XS.aload X15.here hx rfl (hb hby at_83) rfl rfl ?_
      refine XS.iconst X15.here hx rfl (hb hby at_85) ?_
      refine XS.iconst X15.here hx rfl (hb hby at_86) ?_
      exact kt
    obtain ⟨cl17, Ar17, q17, S17, M17, H17, G17⟩ := id V15
    have hin17 : ¬ ((3 : Int32) < 0 ∨ cl17.slots.size ≤ ((3 : Int32)).toNatClampNeg) := inb_of S17 ⟨by decide, by decide⟩
    obtain ⟨T17, h17, X17, e17, W17, st17⟩ := stB X15 hx hZ e15 Ar17 (j := (3 : Int32)) hin17 (g := (mkF m 87 #[iv p0, iv p1, iv p2, iv p3, iv p4, iv mm, iv tA, iv tB, iv tT, iv c0, iv c1, iv c2, iv c3, rv b8, .unset, .unset, .unset] [(.int (4 : Int32)), (.int (3 : Int32)), (.ref b8)])) rfl rfl (hb hby at_87)
    have nn17 : nar .byte (4 : Int32) = (4 : Int32) := (by decide)
    rw [nn17] at W17
    have V17 : Arv Z h17 b8 k8 .byte (8 : Int32) [(.int (48 : Int32)), (.int (0 : Int32)), (.int tT), (.int (4 : Int32)), (.int (0 : Int32)), (.int (0 : Int32)), (.int (0 : Int32)), (.int (0 : Int32))] (.int (0 : Int32)) := Arv.set Ar17 q17 S17 M17 H17 G17 (own_fb nn17) W17 3 rfl (Nat.le_of_ble_eq_true rfl)
    have K17 : Keep h0 h17 [] := K15.wr W17 (Or.inr sz_b8)
    have N17 := Fr.snoc X17 N15 g_b8
    have pre18 : ∀ t, Steps p.tables e below (T17.setTop (mkF m 93 #[iv p0, iv p1, iv p2, iv p3, iv p4, iv mm, iv tA, iv tB, iv tT, iv c0, iv c1, iv c2, iv c3, rv b8, .unset, .unset, .unset] [(.int c0), (.int (4 : Int32)), (.ref b8)])) t → Steps p.tables e below (s₁.setTop (entryFrame m #[(.int p0), (.int p1), (.int p2), (.int p3), (.int p4)] maxLocals)) t := by
      intro t kt
      refine pre16 _ ?_
      show Steps p.tables e below (T15.setTop (mkF m 87 #[iv p0, iv p1, iv p2, iv p3, iv p4, iv mm, iv tA, iv tB, iv tT, iv c0, iv c1, iv c2, iv c3, rv b8, .unset, .unset, .unset] [(.int (4 : Int32)), (.int (3 : Int32)), (.ref b8)])) _
      refine st17 _ ?_
      show Steps p.tables e below (T17.setTop (mkF m 88 #[iv p0, iv p1, iv p2, iv p3, iv p4, iv mm, iv tA, iv tB, iv tT, iv c0, iv c1, iv c2, iv c3, rv b8, .unset, .unset, .unset] [])) _
      refine XS.aload X17.here hx rfl (hb hby at_88) rfl rfl ?_
      refine XS.iconst X17.here hx rfl (hb hby at_90) ?_
      refine XS.iload X17.here hx rfl (hb hby at_91) rfl ?_
      exact kt
    obtain ⟨cl19, Ar19, q19, S19, M19, H19, G19⟩ := id V17
    have hin19 : ¬ ((4 : Int32) < 0 ∨ cl19.slots.size ≤ ((4 : Int32)).toNatClampNeg) := inb_of S19 ⟨by decide, by decide⟩
    obtain ⟨T19, h19, X19, e19, W19, st19⟩ := stB X17 hx hZ e17 Ar19 (j := (4 : Int32)) hin19 (g := (mkF m 93 #[iv p0, iv p1, iv p2, iv p3, iv p4, iv mm, iv tA, iv tB, iv tT, iv c0, iv c1, iv c2, iv c3, rv b8, .unset, .unset, .unset] [(.int c0), (.int (4 : Int32)), (.ref b8)])) rfl rfl (hb hby at_93)
    have nn19 : nar .byte c0 = c0 := (by rw [h_c0]; exact own_nb _)
    rw [nn19] at W19
    have V19 : Arv Z h19 b8 k8 .byte (8 : Int32) [(.int (48 : Int32)), (.int (0 : Int32)), (.int tT), (.int (4 : Int32)), (.int c0), (.int (0 : Int32)), (.int (0 : Int32)), (.int (0 : Int32))] (.int (0 : Int32)) := Arv.set Ar19 q19 S19 M19 H19 G19 (own_fb nn19) W19 4 rfl (Nat.le_of_ble_eq_true rfl)
    have K19 : Keep h0 h19 [] := K17.wr W19 (Or.inr sz_b8)
    have N19 := Fr.snoc X19 N17 g_b8
    have pre20 : ∀ t, Steps p.tables e below (T19.setTop (mkF m 99 #[iv p0, iv p1, iv p2, iv p3, iv p4, iv mm, iv tA, iv tB, iv tT, iv c0, iv c1, iv c2, iv c3, rv b8, .unset, .unset, .unset] [(.int c1), (.int (5 : Int32)), (.ref b8)])) t → Steps p.tables e below (s₁.setTop (entryFrame m #[(.int p0), (.int p1), (.int p2), (.int p3), (.int p4)] maxLocals)) t := by
      intro t kt
      refine pre18 _ ?_
      show Steps p.tables e below (T17.setTop (mkF m 93 #[iv p0, iv p1, iv p2, iv p3, iv p4, iv mm, iv tA, iv tB, iv tT, iv c0, iv c1, iv c2, iv c3, rv b8, .unset, .unset, .unset] [(.int c0), (.int (4 : Int32)), (.ref b8)])) _
      refine st19 _ ?_
      show Steps p.tables e below (T19.setTop (mkF m 94 #[iv p0, iv p1, iv p2, iv p3, iv p4, iv mm, iv tA, iv tB, iv tT, iv c0, iv c1, iv c2, iv c3, rv b8, .unset, .unset, .unset] [])) _
      refine XS.aload X19.here hx rfl (hb hby at_94) rfl rfl ?_
      refine XS.iconst X19.here hx rfl (hb hby at_96) ?_
      refine XS.iload X19.here hx rfl (hb hby at_97) rfl ?_
      exact kt
    obtain ⟨cl21, Ar21, q21, S21, M21, H21, G21⟩ := id V19
    have hin21 : ¬ ((5 : Int32) < 0 ∨ cl21.slots.size ≤ ((5 : Int32)).toNatClampNeg) := inb_of S21 ⟨by decide, by decide⟩
    obtain ⟨T21, h21, X21, e21, W21, st21⟩ := stB X19 hx hZ e19 Ar21 (j := (5 : Int32)) hin21 (g := (mkF m 99 #[iv p0, iv p1, iv p2, iv p3, iv p4, iv mm, iv tA, iv tB, iv tT, iv c0, iv c1, iv c2, iv c3, rv b8, .unset, .unset, .unset] [(.int c1), (.int (5 : Int32)), (.ref b8)])) rfl rfl (hb hby at_99)
    have nn21 : nar .byte c1 = c1 := (by rw [h_c1]; exact own_nb _)
    rw [nn21] at W21
    have V21 : Arv Z h21 b8 k8 .byte (8 : Int32) [(.int (48 : Int32)), (.int (0 : Int32)), (.int tT), (.int (4 : Int32)), (.int c0), (.int c1), (.int (0 : Int32)), (.int (0 : Int32))] (.int (0 : Int32)) := Arv.set Ar21 q21 S21 M21 H21 G21 (own_fb nn21) W21 5 rfl (Nat.le_of_ble_eq_true rfl)
    have K21 : Keep h0 h21 [] := K19.wr W21 (Or.inr sz_b8)
    have N21 := Fr.snoc X21 N19 g_b8
    have pre22 : ∀ t, Steps p.tables e below (T21.setTop (mkF m 106 #[iv p0, iv p1, iv p2, iv p3, iv p4, iv mm, iv tA, iv tB, iv tT, iv c0, iv c1, iv c2, iv c3, rv b8, .unset, .unset, .unset] [(.int c2), (.int (6 : Int32)), (.ref b8)])) t → Steps p.tables e below (s₁.setTop (entryFrame m #[(.int p0), (.int p1), (.int p2), (.int p3), (.int p4)] maxLocals)) t := by
      intro t kt
      refine pre20 _ ?_
      show Steps p.tables e below (T19.setTop (mkF m 99 #[iv p0, iv p1, iv p2, iv p3, iv p4, iv mm, iv tA, iv tB, iv tT, iv c0, iv c1, iv c2, iv c3, rv b8, .unset, .unset, .unset] [(.int c1), (.int (5 : Int32)), (.ref b8)])) _
      refine st21 _ ?_
      show Steps p.tables e below (T21.setTop (mkF m 100 #[iv p0, iv p1, iv p2, iv p3, iv p4, iv mm, iv tA, iv tB, iv tT, iv c0, iv c1, iv c2, iv c3, rv b8, .unset, .unset, .unset] [])) _
      refine XS.aload X21.here hx rfl (hb hby at_100) rfl rfl ?_
      refine XS.bipush X21.here hx rfl (hb hby at_102) ?_
      refine XS.iload X21.here hx rfl (hb hby at_104) rfl ?_
      exact kt
    obtain ⟨cl23, Ar23, q23, S23, M23, H23, G23⟩ := id V21
    have hin23 : ¬ ((6 : Int32) < 0 ∨ cl23.slots.size ≤ ((6 : Int32)).toNatClampNeg) := inb_of S23 ⟨by decide, by decide⟩
    obtain ⟨T23, h23, X23, e23, W23, st23⟩ := stB X21 hx hZ e21 Ar23 (j := (6 : Int32)) hin23 (g := (mkF m 106 #[iv p0, iv p1, iv p2, iv p3, iv p4, iv mm, iv tA, iv tB, iv tT, iv c0, iv c1, iv c2, iv c3, rv b8, .unset, .unset, .unset] [(.int c2), (.int (6 : Int32)), (.ref b8)])) rfl rfl (hb hby at_106)
    have nn23 : nar .byte c2 = c2 := (by rw [h_c2]; exact own_nb _)
    rw [nn23] at W23
    have V23 : Arv Z h23 b8 k8 .byte (8 : Int32) [(.int (48 : Int32)), (.int (0 : Int32)), (.int tT), (.int (4 : Int32)), (.int c0), (.int c1), (.int c2), (.int (0 : Int32))] (.int (0 : Int32)) := Arv.set Ar23 q23 S23 M23 H23 G23 (own_fb nn23) W23 6 rfl (Nat.le_of_ble_eq_true rfl)
    have K23 : Keep h0 h23 [] := K21.wr W23 (Or.inr sz_b8)
    have N23 := Fr.snoc X23 N21 g_b8
    have pre24 : ∀ t, Steps p.tables e below (T23.setTop (mkF m 113 #[iv p0, iv p1, iv p2, iv p3, iv p4, iv mm, iv tA, iv tB, iv tT, iv c0, iv c1, iv c2, iv c3, rv b8, .unset, .unset, .unset] [(.int c3), (.int (7 : Int32)), (.ref b8)])) t → Steps p.tables e below (s₁.setTop (entryFrame m #[(.int p0), (.int p1), (.int p2), (.int p3), (.int p4)] maxLocals)) t := by
      intro t kt
      refine pre22 _ ?_
      show Steps p.tables e below (T21.setTop (mkF m 106 #[iv p0, iv p1, iv p2, iv p3, iv p4, iv mm, iv tA, iv tB, iv tT, iv c0, iv c1, iv c2, iv c3, rv b8, .unset, .unset, .unset] [(.int c2), (.int (6 : Int32)), (.ref b8)])) _
      refine st23 _ ?_
      show Steps p.tables e below (T23.setTop (mkF m 107 #[iv p0, iv p1, iv p2, iv p3, iv p4, iv mm, iv tA, iv tB, iv tT, iv c0, iv c1, iv c2, iv c3, rv b8, .unset, .unset, .unset] [])) _
      refine XS.aload X23.here hx rfl (hb hby at_107) rfl rfl ?_
      refine XS.bipush X23.here hx rfl (hb hby at_109) ?_
      refine XS.iload X23.here hx rfl (hb hby at_111) rfl ?_
      exact kt
    obtain ⟨cl25, Ar25, q25, S25, M25, H25, G25⟩ := id V23
    have hin25 : ¬ ((7 : Int32) < 0 ∨ cl25.slots.size ≤ ((7 : Int32)).toNatClampNeg) := inb_of S25 ⟨by decide, by decide⟩
    obtain ⟨T25, h25, X25, e25, W25, st25⟩ := stB X23 hx hZ e23 Ar25 (j := (7 : Int32)) hin25 (g := (mkF m 113 #[iv p0, iv p1, iv p2, iv p3, iv p4, iv mm, iv tA, iv tB, iv tT, iv c0, iv c1, iv c2, iv c3, rv b8, .unset, .unset, .unset] [(.int c3), (.int (7 : Int32)), (.ref b8)])) rfl rfl (hb hby at_113)
    have nn25 : nar .byte c3 = c3 := (by rw [h_c3]; exact own_nb _)
    rw [nn25] at W25
    have V25 : Arv Z h25 b8 k8 .byte (8 : Int32) [(.int (48 : Int32)), (.int (0 : Int32)), (.int tT), (.int (4 : Int32)), (.int c0), (.int c1), (.int c2), (.int c3)] (.int (0 : Int32)) := Arv.set Ar25 q25 S25 M25 H25 G25 (own_fb nn25) W25 7 rfl (Nat.le_of_ble_eq_true rfl)
    have K25 : Keep h0 h25 [] := K23.wr W25 (Or.inr sz_b8)
    have N25 := Fr.snoc X25 N23 g_b8
    have pre26 : ∀ t, Steps p.tables e below (T25.setTop (mkF m 257 #[iv p0, iv p1, iv p2, iv p3, iv p4, iv mm, iv tA, iv tB, iv tT, iv c0, iv c1, iv c2, iv c3, rv b8, .unset, .unset, .unset] [])) t → Steps p.tables e below (s₁.setTop (entryFrame m #[(.int p0), (.int p1), (.int p2), (.int p3), (.int p4)] maxLocals)) t := by
      intro t kt
      refine pre24 _ ?_
      show Steps p.tables e below (T23.setTop (mkF m 113 #[iv p0, iv p1, iv p2, iv p3, iv p4, iv mm, iv tA, iv tB, iv tT, iv c0, iv c1, iv c2, iv c3, rv b8, .unset, .unset, .unset] [(.int c3), (.int (7 : Int32)), (.ref b8)])) _
      refine st25 _ ?_
      show Steps p.tables e below (T25.setTop (mkF m 114 #[iv p0, iv p1, iv p2, iv p3, iv p4, iv mm, iv tA, iv tB, iv tT, iv c0, iv c1, iv c2, iv c3, rv b8, .unset, .unset, .unset] [])) _
      refine XS.goto X25.here hx rfl (pc0 := 114) (pc' := 257) rfl (hb hby at_114) (by decide) (by decide) ?_
      exact kt
    obtain ⟨T27, h27, X27, e27, E27, A27, D27, -, st27⟩ := newO X25 hx hZ hown (hw _ (List.mem_of_getElem? (i := 5) rfl)) (hw _ (List.mem_of_getElem? (i := 6) rfl)) (hw _ (List.mem_of_getElem? (i := 7) rfl)) e25 (g := (mkF m 257 #[iv p0, iv p1, iv p2, iv p3, iv p4, iv mm, iv tA, iv tB, iv tT, iv c0, iv c1, iv c2, iv c3, rv b8, .unset, .unset, .unset] [])) rfl (hb hby at_257) (by decide) (by decide)
    obtain ⟨b27, g27⟩ : ∃ z, z = h25.size := ⟨_, rfl⟩
    rw [← g27] at A27 D27 st27
    have g_b27 : n0 ≤ b27 := Nat.le_trans (Nat.le_trans Z0 K25.1) (Nat.le_of_eq g27.symm)
    have sz_b27 : h0.size ≤ b27 := Nat.le_trans K25.1 (Nat.le_of_eq g27.symm)
    have F_bytes_b27 : Fld Z h27 b27 "com/example/fair_witness/fairwitness/attestation/DerReader" "bytes" "[B" .null := D27 (Or.inr (hw _ (List.mem_of_getElem? (i := 18) rfl))) (ty := (.array .byte)) (by decide)
    have F_position_b27 : Fld Z h27 b27 "com/example/fair_witness/fairwitness/attestation/DerReader" "position" "I" (.int (0 : Int32)) := D27 (Or.inl (hw _ (List.mem_of_getElem? (i := 20) rfl))) (ty := .int) (by decide)
    have F_end_b27 : Fld Z h27 b27 "com/example/fair_witness/fairwitness/attestation/DerReader" "end" "I" (.int (0 : Int32)) := D27 (Or.inr (hw _ (List.mem_of_getElem? (i := 22) rfl))) (ty := .int) (by decide)
    have K27 : Keep h0 h27 [] := K25.ext E27
    have pre28 : ∀ t, Steps p.tables e below (T27.setTop (mkF m 263 #[iv p0, iv p1, iv p2, iv p3, iv p4, iv mm, iv tA, iv tB, iv tT, iv c0, iv c1, iv c2, iv c3, rv b8, .unset, .unset, .unset] [(.ref b8), (.ref b27), (.ref b27)])) t → Steps p.tables e below (s₁.setTop (entryFrame m #[(.int p0), (.int p1), (.int p2), (.int p3), (.int p4)] maxLocals)) t := by
      intro t kt
      refine pre26 _ ?_
      show Steps p.tables e below (T25.setTop (mkF m 257 #[iv p0, iv p1, iv p2, iv p3, iv p4, iv mm, iv tA, iv tB, iv tT, iv c0, iv c1, iv c2, iv c3, rv b8, .unset, .unset, .unset] [])) _
      refine st27 _ ?_
      show Steps p.tables e below (T27.setTop (mkF m 260 #[iv p0, iv p1, iv p2, iv p3, iv p4, iv mm, iv tA, iv tB, iv tT, iv c0, iv c1, iv c2, iv c3, rv b8, .unset, .unset, .unset] [(.ref b27)])) _
      refine XS.dup X27.here hx rfl (hb hby at_260) rfl rfl ?_
      refine XS.aload X27.here hx rfl (hb hby at_261) rfl rfl ?_
      exact kt
    have f29 := (((((((((Ex8.wr W10).wr W13).wr W15).wr W17).wr W19).wr W21).wr W23).wr W25).ext E27)
    obtain ⟨_, _, ⟨T30, L30, k30, n30⟩, -, X30, ⟨Lc30, hQ30, l30, y30, z30⟩, st30⟩ := X27.specialBack hx (y := (⟨"com/example/fair_witness/fairwitness/attestation/DerReader", "<init>", "([B)V"⟩ : MethodName)) rfl hown (mvT hZ (hw _ (List.mem_of_getElem? (i := 8) rfl))) (mvT hZ (hw _ (List.mem_of_getElem? (i := 9) rfl))) (mvT hZ (hw _ (List.mem_of_getElem? (i := 10) rfl))) (by decide) (backOf (W := 1) (rm2 l Z a0 hw [] b27 b8 k8 (48 : Int32) (0 : Int32) tT (4 : Int32) c0 c1 c2 c3 h27 n0 (Nat.le_trans Z0 K27.1) F_bytes_b27 F_position_b27 F_end_b27 A27 g_b27 (V25.ext E27)) hZ (hw _ (List.mem_of_getElem? (i := 10) rfl)) (hw _ (List.mem_of_getElem? (i := 7) rfl)) (by decide) (by decide)) (g := (mkF m 263 #[iv p0, iv p1, iv p2, iv p3, iv p4, iv mm, iv tA, iv tB, iv tT, iv c0, iv c1, iv c2, iv c3, rv b8, .unset, .unset, .unset] [(.ref b8), (.ref b27), (.ref b27)])) rfl (by rw [hml]; rfl) (Steps.refl _) (a := b27) (argsL := [(.ref b8)]) (rest := [(.ref b27)]) (lenOf pd12 rfl) rfl (by show 2 * 0 + _ ≤ _; exact Nat.le_of_eq rfl) (hb hby at_263) (fun _ _ => ⟨rfl, e27, (by decide : 2 + 0 ≤ _), (by decide : 11 + 0 ≤ _)⟩)
    dsimp only [Pt.U, Pt.locs, Pt.cells, Pt.slots] at X30 l30 y30 z30 st30 hQ30
    subst l30 y30 z30
    obtain ⟨rfl, N30q, Kc30, Fb_30, Fp_30, Fe_30⟩ := hQ30
    have N30 := Fr.app N25 N30q
    have K30 : Keep h0 T30.heap [] := K27.trans Kc30 (allS (Or.inr sz_b27) all0)
    have pre31 : ∀ t, Steps p.tables e below (T30.setTop (mkF m 270 #[iv p0, iv p1, iv p2, iv p3, iv p4, iv mm, iv tA, iv tB, iv tT, iv c0, iv c1, iv c2, iv c3, rv b8, rv b27, .unset, .unset] [(.ref b27)])) t → Steps p.tables e below (s₁.setTop (entryFrame m #[(.int p0), (.int p1), (.int p2), (.int p3), (.int p4)] maxLocals)) t := by
      intro t kt
      refine pre28 _ ?_
      show Steps p.tables e below (T27.setTop (mkF m 263 #[iv p0, iv p1, iv p2, iv p3, iv p4, iv mm, iv tA, iv tB, iv tT, iv c0, iv c1, iv c2, iv c3, rv b8, .unset, .unset, .unset] [(.ref b8), (.ref b27), (.ref b27)])) _
      refine st30.trans ?_
      show Steps p.tables e below (T30.setTop (mkF m 266 #[iv p0, iv p1, iv p2, iv p3, iv p4, iv mm, iv tA, iv tB, iv tT, iv c0, iv c1, iv c2, iv c3, rv b8, .unset, .unset, .unset] [(.ref b27)])) _
      refine XS.astore X30.here hx rfl (hb hby at_266) rfl rfl (l' := #[iv p0, iv p1, iv p2, iv p3, iv p4, iv mm, iv tA, iv tB, iv tT, iv c0, iv c1, iv c2, iv c3, rv b8, rv b27, .unset, .unset]) rfl ?_
      refine XS.aload X30.here hx rfl (hb hby at_268) rfl rfl ?_
      exact kt
    have f32 := ((V25.ext E27).keep Kc30 (ninS (Exa.ne (f29.keep Kc30) (A27.keep Kc30) (by decide)) nin0))
    obtain ⟨cq33, kq33, q33a, q33b, q33c⟩ := isOf hZ rfl (A27.keep Kc30)
    obtain ⟨_, _, ⟨T33, L33, k33, n33⟩, -, X33, hSc33, hgr33, ⟨Lc33, hQ33, l33, y33, z33⟩, st33⟩ := X30.virtualBackS hx (y := (⟨"com/example/fair_witness/fairwitness/attestation/DerReader", "readSequence", "()Lcom/example/fair_witness/fairwitness/attestation/DerReader;"⟩ : MethodName)) (z := (⟨"com/example/fair_witness/fairwitness/attestation/DerReader", "readSequence", "()Lcom/example/fair_witness/fairwitness/attestation/DerReader;"⟩ : MethodName)) hown (mvT hZ (hw _ (List.mem_of_getElem? (i := 23) rfl))) (mvT hZ (hw _ (List.mem_of_getElem? (i := 24) rfl))) (notFace_of_selects (args := #[]) (mvT hZ (hw _ (List.mem_of_getElem? (i := 26) rfl)))) (mvT hZ (hw _ (List.mem_of_getElem? (i := 26) rfl))) (mvT hZ (hw _ (List.mem_of_getElem? (i := 25) rfl))) (by decide) (backOfS (W := 0) (rm5 l Z a0 hw [] b27 b8 k8 (48 : Int32) (0 : Int32) tT (4 : Int32) c0 c1 c2 c3 (0 : Int32) (2 : Int32) T30.heap n0 (Nat.le_trans Z0 K30.1) Fb_30 Fp_30 Fe_30 (A27.keep Kc30) g_b27 f32 (f29.keep Kc30) (by decide) (by decide) (by decide) (by decide) (by decide) (by decide)) hZ (hw _ (List.mem_of_getElem? (i := 27) rfl)) (hw _ (List.mem_of_getElem? (i := 7) rfl)) (by decide) (by decide)) q33a q33c (g := (mkF m 270 #[iv p0, iv p1, iv p2, iv p3, iv p4, iv mm, iv tA, iv tB, iv tT, iv c0, iv c1, iv c2, iv c3, rv b8, rv b27, .unset, .unset] [(.ref b27)])) rfl (by rw [hml]; rfl) (Steps.refl _) (argsL := []) (rest := []) (lenOf pd13 rfl) rfl (by show 2 * 0 + _ ≤ _; exact Nat.le_of_eq rfl) (hb hby at_270) (fun _ _ => ⟨rfl, rfl, (by decide : 2 + 3 ≤ _), (by decide : 11 + 39 ≤ _)⟩)
    dsimp only [Pt.U, Pt.locs, Pt.cells, Pt.slots] at X33 l33 y33 z33 st33 hQ33 hSc33 hgr33
    subst l33 y33 z33
    obtain ⟨x33, rfl, N33q, Kc33, hx33, Fb_33, Fp_33, Fe_33, Ex_33, Fbx_33, Fpx_33, Fex_33⟩ := hQ33
    have N33 := Fr.app N30 N33q
    obtain ⟨X33, hS33, hZ, hown⟩ := rebS (s := s) (vm0 := s.vm) hS0 (Nat.le_trans (Nat.le_trans (Nat.le_trans (Nat.le_trans (Nat.le_trans (Nat.le_trans (Nat.le_trans (Nat.le_trans (Nat.le_trans (Nat.le_trans (Nat.le_trans (Nat.le_refl _) E8.1) (Nat.le_of_eq W10.size.symm)) (Nat.le_of_eq W13.size.symm)) (Nat.le_of_eq W15.size.symm)) (Nat.le_of_eq W17.size.symm)) (Nat.le_of_eq W19.size.symm)) (Nat.le_of_eq W21.size.symm)) (Nat.le_of_eq W23.size.symm)) (Nat.le_of_eq W25.size.symm)) E27.1) Kc30.1) X33 hSc33 hgr33 hZ hown
    have K33 : Keep h0 T33.heap [] := K30.trans Kc33 (allS (Or.inr sz_b27) all0)
    have g_x33 : n0 ≤ x33 := Nat.le_trans (Nat.le_trans Z0 K30.1) hx33
    have sz_x33 : h0.size ≤ x33 := Nat.le_trans K30.1 hx33
    have ne_33 : b27 ≠ x33 := Nat.ne_of_lt (Nat.lt_of_lt_of_le (A27.keep Kc30).lt hx33)
    have pre34 : ∀ t, Steps p.tables e below (T33.setTop (mkF m 277 #[iv p0, iv p1, iv p2, iv p3, iv p4, iv mm, iv tA, iv tB, iv tT, iv c0, iv c1, iv c2, iv c3, rv b8, rv b27, rv x33, .unset] [(.ref b27)])) t → Steps p.tables e below (s₁.setTop (entryFrame m #[(.int p0), (.int p1), (.int p2), (.int p3), (.int p4)] maxLocals)) t := by
      intro t kt
      refine pre31 _ ?_
      show Steps p.tables e below (T30.setTop (mkF m 270 #[iv p0, iv p1, iv p2, iv p3, iv p4, iv mm, iv tA, iv tB, iv tT, iv c0, iv c1, iv c2, iv c3, rv b8, rv b27, .unset, .unset] [(.ref b27)])) _
      refine st33.trans ?_
      show Steps p.tables e below (T33.setTop (mkF m 273 #[iv p0, iv p1, iv p2, iv p3, iv p4, iv mm, iv tA, iv tB, iv tT, iv c0, iv c1, iv c2, iv c3, rv b8, rv b27, .unset, .unset] [(.ref x33)])) _
      refine XS.astore X33.here hx rfl (hb hby at_273) rfl rfl (l' := #[iv p0, iv p1, iv p2, iv p3, iv p4, iv mm, iv tA, iv tB, iv tT, iv c0, iv c1, iv c2, iv c3, rv b8, rv b27, rv x33, .unset]) rfl ?_
      refine XS.aload X33.here hx rfl (hb hby at_275) rfl rfl ?_
      exact kt
    have f35 := ((f29.keep Kc30).keep Kc33)
    have f36 := ((A27.keep Kc30).keep Kc33)
    obtain ⟨cq37, kq37, q37a, q37b, q37c⟩ := isOf hZ rfl f36
    obtain ⟨_, _, ⟨T37, L37, k37, n37⟩, -, X37, ⟨Lc37, hQ37, l37, y37, z37⟩, st37⟩ := X33.virtualBack hx (y := (⟨"com/example/fair_witness/fairwitness/attestation/DerReader", "hasMore", "()Z"⟩ : MethodName)) (z := (⟨"com/example/fair_witness/fairwitness/attestation/DerReader", "hasMore", "()Z"⟩ : MethodName)) hown (mvT hZ (hw _ (List.mem_of_getElem? (i := 52) rfl))) (mvT hZ (hw _ (List.mem_of_getElem? (i := 53) rfl))) (notFace_of_selects (args := #[]) (mvT hZ (hw _ (List.mem_of_getElem? (i := 55) rfl)))) (mvT hZ (hw _ (List.mem_of_getElem? (i := 55) rfl))) (mvT hZ (hw _ (List.mem_of_getElem? (i := 54) rfl))) (by decide) (backOf (W := 0) (rm10i1 l Z a0 hw [] b27 b8 (2 : Int32) (8 : Int32) T33.heap n0 (Nat.le_trans Z0 K33.1) Fb_33 Fp_33 Fe_33 f36 (by decide)) hZ (hw _ (List.mem_of_getElem? (i := 56) rfl)) (hw _ (List.mem_of_getElem? (i := 7) rfl)) (by decide) (by decide)) q37a q37c (g := (mkF m 277 #[iv p0, iv p1, iv p2, iv p3, iv p4, iv mm, iv tA, iv tB, iv tT, iv c0, iv c1, iv c2, iv c3, rv b8, rv b27, rv x33, .unset] [(.ref b27)])) rfl (by rw [hml]; rfl) (Steps.refl _) (argsL := []) (rest := []) (lenOf pd14 rfl) rfl (by show 2 * 0 + _ ≤ _; exact Nat.le_of_eq rfl) (hb hby at_277) (fun _ _ => ⟨rfl, rfl, (by decide : 5 + 0 ≤ _), (by decide : 50 + 0 ≤ _)⟩)
    dsimp only [Pt.U, Pt.locs, Pt.cells, Pt.slots] at X37 l37 y37 z37 st37 hQ37
    subst l37 y37 z37
    obtain ⟨rfl, N37q, hh37⟩ := hQ37
    have N37 := Fr.app N33 N37q
    have pre38 : ∀ t, Steps p.tables e below (T37.setTop (mkF m 289 #[iv p0, iv p1, iv p2, iv p3, iv p4, iv mm, iv tA, iv tB, iv tT, iv c0, iv c1, iv c2, iv c3, rv b8, rv b27, rv x33, iv (1 : Int32)] [(.ref x33)])) t → Steps p.tables e below (s₁.setTop (entryFrame m #[(.int p0), (.int p1), (.int p2), (.int p3), (.int p4)] maxLocals)) t := by
      intro t kt
      refine pre34 _ ?_
      show Steps p.tables e below (T33.setTop (mkF m 277 #[iv p0, iv p1, iv p2, iv p3, iv p4, iv mm, iv tA, iv tB, iv tT, iv c0, iv c1, iv c2, iv c3, rv b8, rv b27, rv x33, .unset] [(.ref b27)])) _
      refine st37.trans ?_
      show Steps p.tables e below (T37.setTop (mkF m 280 #[iv p0, iv p1, iv p2, iv p3, iv p4, iv mm, iv tA, iv tB, iv tT, iv c0, iv c1, iv c2, iv c3, rv b8, rv b27, rv x33, .unset] [(.int (1 : Int32))])) _
      refine XS.istore X37.here hx rfl (hb hby at_280) rfl (l' := #[iv p0, iv p1, iv p2, iv p3, iv p4, iv mm, iv tA, iv tB, iv tT, iv c0, iv c1, iv c2, iv c3, rv b8, rv b27, rv x33, iv (1 : Int32)]) rfl ?_
      refine XS.iload X37.here hx rfl (hb hby at_282) rfl ?_
      refine XS.ifNo X37.here hx rfl (hb hby at_284) rfl ((if0 _ _).trans (feq (by decide)).1) ?_
      refine XS.aload X37.here hx rfl (hb hby at_287) rfl rfl ?_
      exact kt
    obtain ⟨cq39, kq39, q39a, q39b, q39c⟩ := isOf hZ hh37 Ex_33
    obtain ⟨_, _, ⟨T39, L39, k39, n39⟩, -, X39, ⟨Lc39, hQ39, l39, y39, z39⟩, st39⟩ := X37.virtualBack hx (y := (⟨"com/example/fair_witness/fairwitness/attestation/DerReader", "hasMore", "()Z"⟩ : MethodName)) (z := (⟨"com/example/fair_witness/fairwitness/attestation/DerReader", "hasMore", "()Z"⟩ : MethodName)) hown (mvT hZ (hw _ (List.mem_of_getElem? (i := 52) rfl))) (mvT hZ (hw _ (List.mem_of_getElem? (i := 53) rfl))) (notFace_of_selects (args := #[]) (mvT hZ (hw _ (List.mem_of_getElem? (i := 55) rfl)))) (mvT hZ (hw _ (List.mem_of_getElem? (i := 55) rfl))) (mvT hZ (hw _ (List.mem_of_getElem? (i := 54) rfl))) (by decide) (backOf (W := 0) (rm10i0 l Z a0 hw [] x33 b8 (2 : Int32) (2 : Int32) T33.heap n0 (Nat.le_trans Z0 K33.1) Fbx_33 Fpx_33 Fex_33 Ex_33 (by decide)) hZ (hw _ (List.mem_of_getElem? (i := 56) rfl)) (hw _ (List.mem_of_getElem? (i := 7) rfl)) (by decide) (by decide)) q39a q39c (g := (mkF m 289 #[iv p0, iv p1, iv p2, iv p3, iv p4, iv mm, iv tA, iv tB, iv tT, iv c0, iv c1, iv c2, iv c3, rv b8, rv b27, rv x33, iv (1 : Int32)] [(.ref x33)])) rfl (by rw [hml]; rfl) (Steps.refl _) (argsL := []) (rest := []) (lenOf pd14 rfl) rfl (by show 2 * 0 + _ ≤ _; exact Nat.le_of_eq rfl) (hb hby at_289) (fun _ _ => ⟨rfl, hh37, (by decide : 5 + 0 ≤ _), (by decide : 50 + 0 ≤ _)⟩)
    dsimp only [Pt.U, Pt.locs, Pt.cells, Pt.slots] at X39 l39 y39 z39 st39 hQ39
    subst l39 y39 z39
    obtain ⟨rfl, N39q, hh39⟩ := hQ39
    have N39 := Fr.app N37 N39q
    have pre40 : ∀ t, Steps p.tables e below (T39.setTop (mkF m 388 #[iv p0, iv p1, iv p2, iv p3, iv p4, iv mm, iv tA, iv tB, iv tT, iv c0, iv c1, iv c2, iv c3, rv b8, rv b27, rv x33, iv (1 : Int32)] [(.ref b27)])) t → Steps p.tables e below (s₁.setTop (entryFrame m #[(.int p0), (.int p1), (.int p2), (.int p3), (.int p4)] maxLocals)) t := by
      intro t kt
      refine pre38 _ ?_
      show Steps p.tables e below (T37.setTop (mkF m 289 #[iv p0, iv p1, iv p2, iv p3, iv p4, iv mm, iv tA, iv tB, iv tT, iv c0, iv c1, iv c2, iv c3, rv b8, rv b27, rv x33, iv (1 : Int32)] [(.ref x33)])) _
      refine st39.trans ?_
      show Steps p.tables e below (T39.setTop (mkF m 292 #[iv p0, iv p1, iv p2, iv p3, iv p4, iv mm, iv tA, iv tB, iv tT, iv c0, iv c1, iv c2, iv c3, rv b8, rv b27, rv x33, iv (1 : Int32)] [(.int (0 : Int32))])) _
      refine XS.iload X39.here hx rfl (hb hby at_292) rfl ?_
      refine XS.ifYes X39.here hx rfl (pc0 := 294) (pc' := 301) rfl (hb hby at_294) rfl ((if0 _ _).trans (teq hc69).1) (by decide) (by decide) ?_
      refine XS.iconst X39.here hx rfl (hb hby at_301) ?_
      refine XS.icmpNo X39.here hx rfl (hb hby at_302) rfl (teq (by decide)).2 ?_
      refine XS.iconst X39.here hx rfl (hb hby at_305) ?_
      refine XS.goto X39.here hx rfl (pc0 := 306) (pc' := 310) rfl (hb hby at_306) (by decide) (by decide) ?_
      refine XS.istore X39.here hx rfl (hb hby at_310) rfl (l' := #[iv p0, iv p1, iv p2, iv p3, iv p4, iv mm, iv tA, iv tB, iv tT, iv c0, iv c1, iv c2, iv c3, rv b8, rv b27, rv x33, iv (1 : Int32)]) rfl ?_
      refine XS.iload X39.here hx rfl (hb hby at_312) rfl ?_
      refine XS.ifYes X39.here hx rfl (pc0 := 314) (pc' := 386) rfl (hb hby at_314) rfl ((if0 _ _).trans (teq hc69).1) (by decide) (by decide) ?_
      refine XS.aload X39.here hx rfl (hb hby at_386) rfl rfl ?_
      exact kt
    obtain ⟨cq41, kq41, q41a, q41b, q41c⟩ := isOf hZ hh39 f36
    obtain ⟨_, _, ⟨T41, L41, k41, n41⟩, -, X41, hSc41, hgr41, ⟨Lc41, hQ41, l41, y41, z41⟩, st41⟩ := X39.virtualBackS hx (y := (⟨"com/example/fair_witness/fairwitness/attestation/DerReader", "readElement", "()[B"⟩ : MethodName)) (z := (⟨"com/example/fair_witness/fairwitness/attestation/DerReader", "readElement", "()[B"⟩ : MethodName)) hown (mvT hZ (hw _ (List.mem_of_getElem? (i := 57) rfl))) (mvT hZ (hw _ (List.mem_of_getElem? (i := 58) rfl))) (notFace_of_selects (args := #[]) (mvT hZ (hw _ (List.mem_of_getElem? (i := 60) rfl)))) (mvT hZ (hw _ (List.mem_of_getElem? (i := 60) rfl))) (mvT hZ (hw _ (List.mem_of_getElem? (i := 59) rfl))) (by decide) (backOfS (W := 0) (rm11i2_4_8 l Z a0 hw [] b27 b8 k8 (48 : Int32) (0 : Int32) tT (4 : Int32) c0 c1 c2 c3 T33.heap n0 (Nat.le_trans Z0 K33.1) Fb_33 Fp_33 Fe_33 f36 g_b27 (f32.keep Kc33 (ninS (Exa.ne f35 f36 (by decide)) nin0)) f35 (by rw [h_tT]; exact own_tagok _) (by decide)) hZ (hw _ (List.mem_of_getElem? (i := 61) rfl)) (hw _ (List.mem_of_getElem? (i := 7) rfl)) (by decide) (by decide)) q41a q41c (g := (mkF m 388 #[iv p0, iv p1, iv p2, iv p3, iv p4, iv mm, iv tA, iv tB, iv tT, iv c0, iv c1, iv c2, iv c3, rv b8, rv b27, rv x33, iv (1 : Int32)] [(.ref b27)])) rfl (by rw [hml]; rfl) (Steps.refl _) (argsL := []) (rest := []) (lenOf pd15 rfl) rfl (by show 2 * 0 + _ ≤ _; exact Nat.le_of_eq rfl) (hb hby at_388) (fun _ _ => ⟨rfl, hh39, (by decide : 5 + 3 ≤ _), (by decide : 50 + 38 ≤ _)⟩)
    dsimp only [Pt.U, Pt.locs, Pt.cells, Pt.slots] at X41 l41 y41 z41 st41 hQ41 hSc41 hgr41
    subst l41 y41 z41
    obtain ⟨y41, rfl, N41q, Kc41, Fb_41, Fp_41, Fe_41⟩ := hQ41
    have N41 := Fr.app N39 N41q
    obtain ⟨X41, hS41, hZ, hown⟩ := rebS (s := s) (vm0 := T33.vm) hS33 (by rw [hh39]; exact (Nat.le_refl _)) X41 hSc41 hgr41 hZ hown
    have K41 : Keep h0 T41.heap [] := K33.trans Kc41 (allS (Or.inr sz_b27) all0)
    have pre42 : ∀ t, Steps p.tables e below (T41.setTop (mkF m 399 #[iv p0, iv p1, iv p2, iv p3, iv p4, iv mm, iv tA, iv tB, iv tT, iv c0, iv c1, iv c2, iv c3, rv b8, rv b27, rv x33, iv (1 : Int32)] [(.ref b27)])) t → Steps p.tables e below (s₁.setTop (entryFrame m #[(.int p0), (.int p1), (.int p2), (.int p3), (.int p4)] maxLocals)) t := by
      intro t kt
      refine pre40 _ ?_
      show Steps p.tables e below (T39.setTop (mkF m 388 #[iv p0, iv p1, iv p2, iv p3, iv p4, iv mm, iv tA, iv tB, iv tT, iv c0, iv c1, iv c2, iv c3, rv b8, rv b27, rv x33, iv (1 : Int32)] [(.ref b27)])) _
      refine st41.trans ?_
      show Steps p.tables e below (T41.setTop (mkF m 391 #[iv p0, iv p1, iv p2, iv p3, iv p4, iv mm, iv tA, iv tB, iv tT, iv c0, iv c1, iv c2, iv c3, rv b8, rv b27, rv x33, iv (1 : Int32)] [(.ref y41)])) _
      refine XS.pop X41.here hx rfl (hb hby at_391) rfl rfl ?_
      refine XS.iload X41.here hx rfl (hb hby at_392) rfl ?_
      refine XS.ifNo X41.here hx rfl (hb hby at_394) rfl ((if0 _ _).trans (feq (by decide)).1) ?_
      refine XS.aload X41.here hx rfl (hb hby at_397) rfl rfl ?_
      exact kt
    have f43 := ((f32.keep Kc33 (ninS (Exa.ne (f35.keep Kc41) (f36.keep Kc41) (by decide)) nin0)).keep Kc41 (ninS (Exa.ne (f35.keep Kc41) (f36.keep Kc41) (by decide)) nin0))
    obtain ⟨cq44, kq44, q44a, q44b, q44c⟩ := isOf hZ rfl (f36.keep Kc41)
    obtain ⟨_, _, ⟨T44, L44, k44, n44⟩, -, X44, ⟨Lc44, hQ44, l44, y44, z44⟩, st44⟩ := X41.virtualBack hx (y := (⟨"com/example/fair_witness/fairwitness/attestation/DerReader", "hasMore", "()Z"⟩ : MethodName)) (z := (⟨"com/example/fair_witness/fairwitness/attestation/DerReader", "hasMore", "()Z"⟩ : MethodName)) hown (mvT hZ (hw _ (List.mem_of_getElem? (i := 52) rfl))) (mvT hZ (hw _ (List.mem_of_getElem? (i := 53) rfl))) (notFace_of_selects (args := #[]) (mvT hZ (hw _ (List.mem_of_getElem? (i := 55) rfl)))) (mvT hZ (hw _ (List.mem_of_getElem? (i := 55) rfl))) (mvT hZ (hw _ (List.mem_of_getElem? (i := 54) rfl))) (by decide) (backOf (W := 0) (rm10i0 l Z a0 hw [] b27 b8 (8 : Int32) (8 : Int32) T41.heap n0 (Nat.le_trans Z0 K41.1) Fb_41 Fp_41 Fe_41 (f36.keep Kc41) (by decide)) hZ (hw _ (List.mem_of_getElem? (i := 56) rfl)) (hw _ (List.mem_of_getElem? (i := 7) rfl)) (by decide) (by decide)) q44a q44c (g := (mkF m 399 #[iv p0, iv p1, iv p2, iv p3, iv p4, iv mm, iv tA, iv tB, iv tT, iv c0, iv c1, iv c2, iv c3, rv b8, rv b27, rv x33, iv (1 : Int32)] [(.ref b27)])) rfl (by rw [hml]; rfl) (Steps.refl _) (argsL := []) (rest := []) (lenOf pd14 rfl) rfl (by show 2 * 0 + _ ≤ _; exact Nat.le_of_eq rfl) (hb hby at_399) (fun _ _ => ⟨rfl, rfl, (by decide : 8 + 0 ≤ _), (by decide : 88 + 0 ≤ _)⟩)
    dsimp only [Pt.U, Pt.locs, Pt.cells, Pt.slots] at X44 l44 y44 z44 st44 hQ44
    subst l44 y44 z44
    obtain ⟨rfl, N44q, hh44⟩ := hQ44
    have N44 := Fr.app N41 N44q
    have pre45 : ∀ t, Steps p.tables e below (T44.setTop (mkF m 414 #[iv p0, iv p1, iv p2, iv p3, iv p4, iv mm, iv tA, iv tB, iv tT, iv c0, iv c1, iv c2, iv c3, rv b8, rv b27, rv x33, iv (1 : Int32)] [(.int (1 : Int32))])) t → Steps p.tables e below (s₁.setTop (entryFrame m #[(.int p0), (.int p1), (.int p2), (.int p3), (.int p4)] maxLocals)) t := by
      intro t kt
      refine pre42 _ ?_
      show Steps p.tables e below (T41.setTop (mkF m 399 #[iv p0, iv p1, iv p2, iv p3, iv p4, iv mm, iv tA, iv tB, iv tT, iv c0, iv c1, iv c2, iv c3, rv b8, rv b27, rv x33, iv (1 : Int32)] [(.ref b27)])) _
      refine st44.trans ?_
      show Steps p.tables e below (T44.setTop (mkF m 402 #[iv p0, iv p1, iv p2, iv p3, iv p4, iv mm, iv tA, iv tB, iv tT, iv c0, iv c1, iv c2, iv c3, rv b8, rv b27, rv x33, iv (1 : Int32)] [(.int (0 : Int32))])) _
      refine XS.ifNo X44.here hx rfl (hb hby at_402) rfl ((if0 _ _).trans (teq (by decide)).2) ?_
      refine XS.iconst X44.here hx rfl (hb hby at_405) ?_
      refine XS.goto X44.here hx rfl (pc0 := 406) (pc' := 410) rfl (hb hby at_406) (by decide) (by decide) ?_
      refine XS.istore X44.here hx rfl (hb hby at_410) rfl (l' := #[iv p0, iv p1, iv p2, iv p3, iv p4, iv mm, iv tA, iv tB, iv tT, iv c0, iv c1, iv c2, iv c3, rv b8, rv b27, rv x33, iv (1 : Int32)]) rfl ?_
      refine XS.iload X44.here hx rfl (hb hby at_412) rfl ?_
      exact kt
    obtain ⟨fs, hr, hrun, hended, hRW⟩ := Jvm.Stand.leaveW (s := s) (vm₁ := T41.vm) X44 hS41 (by rw [hh44]; exact (Nat.le_refl _)) (v := some (.int (1 : Int32))) (fun h => by rw [Bd.returns] at h; cases h)
    refine ⟨_, _, pre45 _ ?_, hrun, hended, _, _, rfl, ?_, hRW.1, hRW.2.1, hRW.2.2.1, hRW.2.2.2.mono (by decide) (by decide)⟩
    · show Steps p.tables e below (T44.setTop (mkF m 414 #[iv p0, iv p1, iv p2, iv p3, iv p4, iv mm, iv tA, iv tB, iv tT, iv c0, iv c1, iv c2, iv c3, rv b8, rv b27, rv x33, iv (1 : Int32)] [(.int (1 : Int32))])) _
      exact retN X44 hx (t := .boolean) Bd.returns (by simp) (hb hby at_414) hr
    · show Q0 Z p0 p1 p2 p3 p4 h0 n0 _ T44.heap _
      rw [hh44]
      exact ⟨rfl, N44⟩
  · have pre46 : ∀ t, Steps p.tables e below (T10.setTop (mkF m 120 #[iv p0, iv p1, iv p2, iv p3, iv p4, iv mm, iv tA, iv tB, iv tT, iv c0, iv c1, iv c2, iv c3, rv b8, .unset, .unset, .unset] [(.int (1 : Int32)), (.int mm)])) t → Steps p.tables e below (s₁.setTop (entryFrame m #[(.int p0), (.int p1), (.int p2), (.int p3), (.int p4)] maxLocals)) t := by
      intro t kt
      refine pre11 _ ?_
      show Steps p.tables e below (T10.setTop (mkF m 69 #[iv p0, iv p1, iv p2, iv p3, iv p4, iv mm, iv tA, iv tB, iv tT, iv c0, iv c1, iv c2, iv c3, rv b8, .unset, .unset, .unset] [(.int mm)])) _
      refine XS.ifYes X10.here hx rfl (pc0 := 69) (pc' := 117) rfl (hb hby at_69) rfl ((if0 _ _).trans (feq hc69).2) (by decide) (by decide) ?_
      refine XS.iload X10.here hx rfl (hb hby at_117) rfl ?_
      refine XS.iconst X10.here hx rfl (hb hby at_119) ?_
      exact kt
    by_cases hc120 : mm = (1 : Int32)
    · have pre47 : ∀ t, Steps p.tables e below (T10.setTop (mkF m 127 #[iv p0, iv p1, iv p2, iv p3, iv p4, iv mm, iv tA, iv tB, iv tT, iv c0, iv c1, iv c2, iv c3, rv b8, .unset, .unset, .unset] [(.int (2 : Int32)), (.int (1 : Int32)), (.ref b8)])) t → Steps p.tables e below (s₁.setTop (entryFrame m #[(.int p0), (.int p1), (.int p2), (.int p3), (.int p4)] maxLocals)) t := by
        intro t kt
        refine pre46 _ ?_
        show Steps p.tables e below (T10.setTop (mkF m 120 #[iv p0, iv p1, iv p2, iv p3, iv p4, iv mm, iv tA, iv tB, iv tT, iv c0, iv c1, iv c2, iv c3, rv b8, .unset, .unset, .unset] [(.int (1 : Int32)), (.int mm)])) _
        refine XS.icmpNo X10.here hx rfl (hb hby at_120) rfl (teq hc120).2 ?_
        refine XS.aload X10.here hx rfl (hb hby at_123) rfl rfl ?_
        refine XS.iconst X10.here hx rfl (hb hby at_125) ?_
        refine XS.iconst X10.here hx rfl (hb hby at_126) ?_
        exact kt
      obtain ⟨cl48, Ar48, q48, S48, M48, H48, G48⟩ := id V10
      have hin48 : ¬ ((1 : Int32) < 0 ∨ cl48.slots.size ≤ ((1 : Int32)).toNatClampNeg) := inb_of S48 ⟨by decide, by decide⟩
      obtain ⟨T48, h48, X48, e48, W48, st48⟩ := stB X10 hx hZ e10 Ar48 (j := (1 : Int32)) hin48 (g := (mkF m 127 #[iv p0, iv p1, iv p2, iv p3, iv p4, iv mm, iv tA, iv tB, iv tT, iv c0, iv c1, iv c2, iv c3, rv b8, .unset, .unset, .unset] [(.int (2 : Int32)), (.int (1 : Int32)), (.ref b8)])) rfl rfl (hb hby at_127)
      have nn48 : nar .byte (2 : Int32) = (2 : Int32) := (by decide)
      rw [nn48] at W48
      have V48 : Arv Z h48 b8 k8 .byte (8 : Int32) [(.int (48 : Int32)), (.int (2 : Int32)), (.int (0 : Int32)), (.int (0 : Int32)), (.int (0 : Int32)), (.int (0 : Int32)), (.int (0 : Int32)), (.int (0 : Int32))] (.int (0 : Int32)) := Arv.set Ar48 q48 S48 M48 H48 G48 (own_fb nn48) W48 1 rfl (Nat.le_of_ble_eq_true rfl)
      have K48 : Keep h0 h48 [] := K10.wr W48 (Or.inr sz_b8)
      have N48 := Fr.snoc X48 N10 g_b8
      have pre49 : ∀ t, Steps p.tables e below (T48.setTop (mkF m 133 #[iv p0, iv p1, iv p2, iv p3, iv p4, iv mm, iv tA, iv tB, iv tT, iv c0, iv c1, iv c2, iv c3, rv b8, .unset, .unset, .unset] [(.int tA), (.int (2 : Int32)), (.ref b8)])) t → Steps p.tables e below (s₁.setTop (entryFrame m #[(.int p0), (.int p1), (.int p2), (.int p3), (.int p4)] maxLocals)) t := by
        intro t kt
        refine pre47 _ ?_
        show Steps p.tables e below (T10.setTop (mkF m 127 #[iv p0, iv p1, iv p2, iv p3, iv p4, iv mm, iv tA, iv tB, iv tT, iv c0, iv c1, iv c2, iv c3, rv b8, .unset, .unset, .unset] [(.int (2 : Int32)), (.int (1 : Int32)), (.ref b8)])) _
        refine st48 _ ?_
        show Steps p.tables e below (T48.setTop (mkF m 128 #[iv p0, iv p1, iv p2, iv p3, iv p4, iv mm, iv tA, iv tB, iv tT, iv c0, iv c1, iv c2, iv c3, rv b8, .unset, .unset, .unset] [])) _
        refine XS.aload X48.here hx rfl (hb hby at_128) rfl rfl ?_
        refine XS.iconst X48.here hx rfl (hb hby at_130) ?_
        refine XS.iload X48.here hx rfl (hb hby at_131) rfl ?_
        exact kt
      obtain ⟨cl50, Ar50, q50, S50, M50, H50, G50⟩ := id V48
      have hin50 : ¬ ((2 : Int32) < 0 ∨ cl50.slots.size ≤ ((2 : Int32)).toNatClampNeg) := inb_of S50 ⟨by decide, by decide⟩
      obtain ⟨T50, h50, X50, e50, W50, st50⟩ := stB X48 hx hZ e48 Ar50 (j := (2 : Int32)) hin50 (g := (mkF m 133 #[iv p0, iv p1, iv p2, iv p3, iv p4, iv mm, iv tA, iv tB, iv tT, iv c0, iv c1, iv c2, iv c3, rv b8, .unset, .unset, .unset] [(.int tA), (.int (2 : Int32)), (.ref b8)])) rfl rfl (hb hby at_133)
      have nn50 : nar .byte tA = tA := (by rw [h_tA]; exact own_nb _)
      rw [nn50] at W50
      have V50 : Arv Z h50 b8 k8 .byte (8 : Int32) [(.int (48 : Int32)), (.int (2 : Int32)), (.int tA), (.int (0 : Int32)), (.int (0 : Int32)), (.int (0 : Int32)), (.int (0 : Int32)), (.int (0 : Int32))] (.int (0 : Int32)) := Arv.set Ar50 q50 S50 M50 H50 G50 (own_fb nn50) W50 2 rfl (Nat.le_of_ble_eq_true rfl)
      have K50 : Keep h0 h50 [] := K48.wr W50 (Or.inr sz_b8)
      have N50 := Fr.snoc X50 N48 g_b8
      have pre51 : ∀ t, Steps p.tables e below (T50.setTop (mkF m 138 #[iv p0, iv p1, iv p2, iv p3, iv p4, iv mm, iv tA, iv tB, iv tT, iv c0, iv c1, iv c2, iv c3, rv b8, .unset, .unset, .unset] [(.int (0 : Int32)), (.int (3 : Int32)), (.ref b8)])) t → Steps p.tables e below (s₁.setTop (entryFrame m #[(.int p0), (.int p1), (.int p2), (.int p3), (.int p4)] maxLocals)) t := by
        intro t kt
        refine pre49 _ ?_
        show Steps p.tables e below (T48.setTop (mkF m 133 #[iv p0, iv p1, iv p2, iv p3, iv p4, iv mm, iv tA, iv tB, iv tT, iv c0, iv c1, iv c2, iv c3, rv b8, .unset, .unset, .unset] [(.int tA), (.int (2 : Int32)), (.ref b8)])) _
        refine st50 _ ?_
        show Steps p.tables e below (T50.setTop (mkF m 134 #[iv p0, iv p1, iv p2, iv p3, iv p4, iv mm, iv tA, iv tB, iv tT, iv c0, iv c1, iv c2, iv c3, rv b8, .unset, .unset, .unset] [])) _
        refine XS.aload X50.here hx rfl (hb hby at_134) rfl rfl ?_
        refine XS.iconst X50.here hx rfl (hb hby at_136) ?_
        refine XS.iconst X50.here hx rfl (hb hby at_137) ?_
        exact kt
      obtain ⟨cl52, Ar52, q52, S52, M52, H52, G52⟩ := id V50
      have hin52 : ¬ ((3 : Int32) < 0 ∨ cl52.slots.size ≤ ((3 : Int32)).toNatClampNeg) := inb_of S52 ⟨by decide, by decide⟩
      obtain ⟨T52, h52, X52, e52, W52, st52⟩ := stB X50 hx hZ e50 Ar52 (j := (3 : Int32)) hin52 (g := (mkF m 138 #[iv p0, iv p1, iv p2, iv p3, iv p4, iv mm, iv tA, iv tB, iv tT, iv c0, iv c1, iv c2, iv c3, rv b8, .unset, .unset, .unset] [(.int (0 : Int32)), (.int (3 : Int32)), (.ref b8)])) rfl rfl (hb hby at_138)
      have nn52 : nar .byte (0 : Int32) = (0 : Int32) := (by decide)
      rw [nn52] at W52
      have V52 : Arv Z h52 b8 k8 .byte (8 : Int32) [(.int (48 : Int32)), (.int (2 : Int32)), (.int tA), (.int (0 : Int32)), (.int (0 : Int32)), (.int (0 : Int32)), (.int (0 : Int32)), (.int (0 : Int32))] (.int (0 : Int32)) := Arv.set Ar52 q52 S52 M52 H52 G52 (own_fb nn52) W52 3 rfl (Nat.le_of_ble_eq_true rfl)
      have K52 : Keep h0 h52 [] := K50.wr W52 (Or.inr sz_b8)
      have N52 := Fr.snoc X52 N50 g_b8
      have pre53 : ∀ t, Steps p.tables e below (T52.setTop (mkF m 144 #[iv p0, iv p1, iv p2, iv p3, iv p4, iv mm, iv tA, iv tB, iv tT, iv c0, iv c1, iv c2, iv c3, rv b8, .unset, .unset, .unset] [(.int tT), (.int (4 : Int32)), (.ref b8)])) t → Steps p.tables e below (s₁.setTop (entryFrame m #[(.int p0), (.int p1), (.int p2), (.int p3), (.int p4)] maxLocals)) t := by
        intro t kt
        refine pre51 _ ?_
        show Steps p.tables e below (T50.setTop (mkF m 138 #[iv p0, iv p1, iv p2, iv p3, iv p4, iv mm, iv tA, iv tB, iv tT, iv c0, iv c1, iv c2, iv c3, rv b8, .unset, .unset, .unset] [(.int (0 : Int32)), (.int (3 : Int32)), (.ref b8)])) _
        refine st52 _ ?_
        show Steps p.tables e below (T52.setTop (mkF m 139 #[iv p0, iv p1, iv p2, iv p3, iv p4, iv mm, iv tA, iv tB, iv tT, iv c0, iv c1, iv c2, iv c3, rv b8, .unset, .unset, .unset] [])) _
        refine XS.aload X52.here hx rfl (hb hby at_139) rfl rfl ?_
        refine XS.iconst X52.here hx rfl (hb hby at_141) ?_
        refine XS.iload X52.here hx rfl (hb hby at_142) rfl ?_
        exact kt
      obtain ⟨cl54, Ar54, q54, S54, M54, H54, G54⟩ := id V52
      have hin54 : ¬ ((4 : Int32) < 0 ∨ cl54.slots.size ≤ ((4 : Int32)).toNatClampNeg) := inb_of S54 ⟨by decide, by decide⟩
      obtain ⟨T54, h54, X54, e54, W54, st54⟩ := stB X52 hx hZ e52 Ar54 (j := (4 : Int32)) hin54 (g := (mkF m 144 #[iv p0, iv p1, iv p2, iv p3, iv p4, iv mm, iv tA, iv tB, iv tT, iv c0, iv c1, iv c2, iv c3, rv b8, .unset, .unset, .unset] [(.int tT), (.int (4 : Int32)), (.ref b8)])) rfl rfl (hb hby at_144)
      have nn54 : nar .byte tT = tT := (by rw [h_tT]; exact own_nb _)
      rw [nn54] at W54
      have V54 : Arv Z h54 b8 k8 .byte (8 : Int32) [(.int (48 : Int32)), (.int (2 : Int32)), (.int tA), (.int (0 : Int32)), (.int tT), (.int (0 : Int32)), (.int (0 : Int32)), (.int (0 : Int32))] (.int (0 : Int32)) := Arv.set Ar54 q54 S54 M54 H54 G54 (own_fb nn54) W54 4 rfl (Nat.le_of_ble_eq_true rfl)
      have K54 : Keep h0 h54 [] := K52.wr W54 (Or.inr sz_b8)
      have N54 := Fr.snoc X54 N52 g_b8
      have pre55 : ∀ t, Steps p.tables e below (T54.setTop (mkF m 149 #[iv p0, iv p1, iv p2, iv p3, iv p4, iv mm, iv tA, iv tB, iv tT, iv c0, iv c1, iv c2, iv c3, rv b8, .unset, .unset, .unset] [(.int (2 : Int32)), (.int (5 : Int32)), (.ref b8)])) t → Steps p.tables e below (s₁.setTop (entryFrame m #[(.int p0), (.int p1), (.int p2), (.int p3), (.int p4)] maxLocals)) t := by
        intro t kt
        refine pre53 _ ?_
        show Steps p.tables e below (T52.setTop (mkF m 144 #[iv p0, iv p1, iv p2, iv p3, iv p4, iv mm, iv tA, iv tB, iv tT, iv c0, iv c1, iv c2, iv c3, rv b8, .unset, .unset, .unset] [(.int tT), (.int (4 : Int32)), (.ref b8)])) _
        refine st54 _ ?_
        show Steps p.tables e below (T54.setTop (mkF m 145 #[iv p0, iv p1, iv p2, iv p3, iv p4, iv mm, iv tA, iv tB, iv tT, iv c0, iv c1, iv c2, iv c3, rv b8, .unset, .unset, .unset] [])) _
        refine XS.aload X54.here hx rfl (hb hby at_145) rfl rfl ?_
        refine XS.iconst X54.here hx rfl (hb hby at_147) ?_
        refine XS.iconst X54.here hx rfl (hb hby at_148) ?_
        exact kt
      obtain ⟨cl56, Ar56, q56, S56, M56, H56, G56⟩ := id V54
      have hin56 : ¬ ((5 : Int32) < 0 ∨ cl56.slots.size ≤ ((5 : Int32)).toNatClampNeg) := inb_of S56 ⟨by decide, by decide⟩
      obtain ⟨T56, h56, X56, e56, W56, st56⟩ := stB X54 hx hZ e54 Ar56 (j := (5 : Int32)) hin56 (g := (mkF m 149 #[iv p0, iv p1, iv p2, iv p3, iv p4, iv mm, iv tA, iv tB, iv tT, iv c0, iv c1, iv c2, iv c3, rv b8, .unset, .unset, .unset] [(.int (2 : Int32)), (.int (5 : Int32)), (.ref b8)])) rfl rfl (hb hby at_149)
      have nn56 : nar .byte (2 : Int32) = (2 : Int32) := (by decide)
      rw [nn56] at W56
      have V56 : Arv Z h56 b8 k8 .byte (8 : Int32) [(.int (48 : Int32)), (.int (2 : Int32)), (.int tA), (.int (0 : Int32)), (.int tT), (.int (2 : Int32)), (.int (0 : Int32)), (.int (0 : Int32))] (.int (0 : Int32)) := Arv.set Ar56 q56 S56 M56 H56 G56 (own_fb nn56) W56 5 rfl (Nat.le_of_ble_eq_true rfl)
      have K56 : Keep h0 h56 [] := K54.wr W56 (Or.inr sz_b8)
      have N56 := Fr.snoc X56 N54 g_b8
      have pre57 : ∀ t, Steps p.tables e below (T56.setTop (mkF m 156 #[iv p0, iv p1, iv p2, iv p3, iv p4, iv mm, iv tA, iv tB, iv tT, iv c0, iv c1, iv c2, iv c3, rv b8, .unset, .unset, .unset] [(.int c0), (.int (6 : Int32)), (.ref b8)])) t → Steps p.tables e below (s₁.setTop (entryFrame m #[(.int p0), (.int p1), (.int p2), (.int p3), (.int p4)] maxLocals)) t := by
        intro t kt
        refine pre55 _ ?_
        show Steps p.tables e below (T54.setTop (mkF m 149 #[iv p0, iv p1, iv p2, iv p3, iv p4, iv mm, iv tA, iv tB, iv tT, iv c0, iv c1, iv c2, iv c3, rv b8, .unset, .unset, .unset] [(.int (2 : Int32)), (.int (5 : Int32)), (.ref b8)])) _
        refine st56 _ ?_
        show Steps p.tables e below (T56.setTop (mkF m 150 #[iv p0, iv p1, iv p2, iv p3, iv p4, iv mm, iv tA, iv tB, iv tT, iv c0, iv c1, iv c2, iv c3, rv b8, .unset, .unset, .unset] [])) _
        refine XS.aload X56.here hx rfl (hb hby at_150) rfl rfl ?_
        refine XS.bipush X56.here hx rfl (hb hby at_152) ?_
        refine XS.iload X56.here hx rfl (hb hby at_154) rfl ?_
        exact kt
      obtain ⟨cl58, Ar58, q58, S58, M58, H58, G58⟩ := id V56
      have hin58 : ¬ ((6 : Int32) < 0 ∨ cl58.slots.size ≤ ((6 : Int32)).toNatClampNeg) := inb_of S58 ⟨by decide, by decide⟩
      obtain ⟨T58, h58, X58, e58, W58, st58⟩ := stB X56 hx hZ e56 Ar58 (j := (6 : Int32)) hin58 (g := (mkF m 156 #[iv p0, iv p1, iv p2, iv p3, iv p4, iv mm, iv tA, iv tB, iv tT, iv c0, iv c1, iv c2, iv c3, rv b8, .unset, .unset, .unset] [(.int c0), (.int (6 : Int32)), (.ref b8)])) rfl rfl (hb hby at_156)
      have nn58 : nar .byte c0 = c0 := (by rw [h_c0]; exact own_nb _)
      rw [nn58] at W58
      have V58 : Arv Z h58 b8 k8 .byte (8 : Int32) [(.int (48 : Int32)), (.int (2 : Int32)), (.int tA), (.int (0 : Int32)), (.int tT), (.int (2 : Int32)), (.int c0), (.int (0 : Int32))] (.int (0 : Int32)) := Arv.set Ar58 q58 S58 M58 H58 G58 (own_fb nn58) W58 6 rfl (Nat.le_of_ble_eq_true rfl)
      have K58 : Keep h0 h58 [] := K56.wr W58 (Or.inr sz_b8)
      have N58 := Fr.snoc X58 N56 g_b8
      have pre59 : ∀ t, Steps p.tables e below (T58.setTop (mkF m 163 #[iv p0, iv p1, iv p2, iv p3, iv p4, iv mm, iv tA, iv tB, iv tT, iv c0, iv c1, iv c2, iv c3, rv b8, .unset, .unset, .unset] [(.int c1), (.int (7 : Int32)), (.ref b8)])) t → Steps p.tables e below (s₁.setTop (entryFrame m #[(.int p0), (.int p1), (.int p2), (.int p3), (.int p4)] maxLocals)) t := by
        intro t kt
        refine pre57 _ ?_
        show Steps p.tables e below (T56.setTop (mkF m 156 #[iv p0, iv p1, iv p2, iv p3, iv p4, iv mm, iv tA, iv tB, iv tT, iv c0, iv c1, iv c2, iv c3, rv b8, .unset, .unset, .unset] [(.int c0), (.int (6 : Int32)), (.ref b8)])) _
        refine st58 _ ?_
        show Steps p.tables e below (T58.setTop (mkF m 157 #[iv p0, iv p1, iv p2, iv p3, iv p4, iv mm, iv tA, iv tB, iv tT, iv c0, iv c1, iv c2, iv c3, rv b8, .unset, .unset, .unset] [])) _
        refine XS.aload X58.here hx rfl (hb hby at_157) rfl rfl ?_
        refine XS.bipush X58.here hx rfl (hb hby at_159) ?_
        refine XS.iload X58.here hx rfl (hb hby at_161) rfl ?_
        exact kt
      obtain ⟨cl60, Ar60, q60, S60, M60, H60, G60⟩ := id V58
      have hin60 : ¬ ((7 : Int32) < 0 ∨ cl60.slots.size ≤ ((7 : Int32)).toNatClampNeg) := inb_of S60 ⟨by decide, by decide⟩
      obtain ⟨T60, h60, X60, e60, W60, st60⟩ := stB X58 hx hZ e58 Ar60 (j := (7 : Int32)) hin60 (g := (mkF m 163 #[iv p0, iv p1, iv p2, iv p3, iv p4, iv mm, iv tA, iv tB, iv tT, iv c0, iv c1, iv c2, iv c3, rv b8, .unset, .unset, .unset] [(.int c1), (.int (7 : Int32)), (.ref b8)])) rfl rfl (hb hby at_163)
      have nn60 : nar .byte c1 = c1 := (by rw [h_c1]; exact own_nb _)
      rw [nn60] at W60
      have V60 : Arv Z h60 b8 k8 .byte (8 : Int32) [(.int (48 : Int32)), (.int (2 : Int32)), (.int tA), (.int (0 : Int32)), (.int tT), (.int (2 : Int32)), (.int c0), (.int c1)] (.int (0 : Int32)) := Arv.set Ar60 q60 S60 M60 H60 G60 (own_fb nn60) W60 7 rfl (Nat.le_of_ble_eq_true rfl)
      have K60 : Keep h0 h60 [] := K58.wr W60 (Or.inr sz_b8)
      have N60 := Fr.snoc X60 N58 g_b8
      have pre61 : ∀ t, Steps p.tables e below (T60.setTop (mkF m 257 #[iv p0, iv p1, iv p2, iv p3, iv p4, iv mm, iv tA, iv tB, iv tT, iv c0, iv c1, iv c2, iv c3, rv b8, .unset, .unset, .unset] [])) t → Steps p.tables e below (s₁.setTop (entryFrame m #[(.int p0), (.int p1), (.int p2), (.int p3), (.int p4)] maxLocals)) t := by
        intro t kt
        refine pre59 _ ?_
        show Steps p.tables e below (T58.setTop (mkF m 163 #[iv p0, iv p1, iv p2, iv p3, iv p4, iv mm, iv tA, iv tB, iv tT, iv c0, iv c1, iv c2, iv c3, rv b8, .unset, .unset, .unset] [(.int c1), (.int (7 : Int32)), (.ref b8)])) _
        refine st60 _ ?_
        show Steps p.tables e below (T60.setTop (mkF m 164 #[iv p0, iv p1, iv p2, iv p3, iv p4, iv mm, iv tA, iv tB, iv tT, iv c0, iv c1, iv c2, iv c3, rv b8, .unset, .unset, .unset] [])) _
        refine XS.goto X60.here hx rfl (pc0 := 164) (pc' := 257) rfl (hb hby at_164) (by decide) (by decide) ?_
        exact kt
      obtain ⟨T62, h62, X62, e62, E62, A62, D62, -, st62⟩ := newO X60 hx hZ hown (hw _ (List.mem_of_getElem? (i := 5) rfl)) (hw _ (List.mem_of_getElem? (i := 6) rfl)) (hw _ (List.mem_of_getElem? (i := 7) rfl)) e60 (g := (mkF m 257 #[iv p0, iv p1, iv p2, iv p3, iv p4, iv mm, iv tA, iv tB, iv tT, iv c0, iv c1, iv c2, iv c3, rv b8, .unset, .unset, .unset] [])) rfl (hb hby at_257) (by decide) (by decide)
      obtain ⟨b62, g62⟩ : ∃ z, z = h60.size := ⟨_, rfl⟩
      rw [← g62] at A62 D62 st62
      have g_b62 : n0 ≤ b62 := Nat.le_trans (Nat.le_trans Z0 K60.1) (Nat.le_of_eq g62.symm)
      have sz_b62 : h0.size ≤ b62 := Nat.le_trans K60.1 (Nat.le_of_eq g62.symm)
      have F_bytes_b62 : Fld Z h62 b62 "com/example/fair_witness/fairwitness/attestation/DerReader" "bytes" "[B" .null := D62 (Or.inr (hw _ (List.mem_of_getElem? (i := 18) rfl))) (ty := (.array .byte)) (by decide)
      have F_position_b62 : Fld Z h62 b62 "com/example/fair_witness/fairwitness/attestation/DerReader" "position" "I" (.int (0 : Int32)) := D62 (Or.inl (hw _ (List.mem_of_getElem? (i := 20) rfl))) (ty := .int) (by decide)
      have F_end_b62 : Fld Z h62 b62 "com/example/fair_witness/fairwitness/attestation/DerReader" "end" "I" (.int (0 : Int32)) := D62 (Or.inr (hw _ (List.mem_of_getElem? (i := 22) rfl))) (ty := .int) (by decide)
      have K62 : Keep h0 h62 [] := K60.ext E62
      have pre63 : ∀ t, Steps p.tables e below (T62.setTop (mkF m 263 #[iv p0, iv p1, iv p2, iv p3, iv p4, iv mm, iv tA, iv tB, iv tT, iv c0, iv c1, iv c2, iv c3, rv b8, .unset, .unset, .unset] [(.ref b8), (.ref b62), (.ref b62)])) t → Steps p.tables e below (s₁.setTop (entryFrame m #[(.int p0), (.int p1), (.int p2), (.int p3), (.int p4)] maxLocals)) t := by
        intro t kt
        refine pre61 _ ?_
        show Steps p.tables e below (T60.setTop (mkF m 257 #[iv p0, iv p1, iv p2, iv p3, iv p4, iv mm, iv tA, iv tB, iv tT, iv c0, iv c1, iv c2, iv c3, rv b8, .unset, .unset, .unset] [])) _
        refine st62 _ ?_
        show Steps p.tables e below (T62.setTop (mkF m 260 #[iv p0, iv p1, iv p2, iv p3, iv p4, iv mm, iv tA, iv tB, iv tT, iv c0, iv c1, iv c2, iv c3, rv b8, .unset, .unset, .unset] [(.ref b62)])) _
        refine XS.dup X62.here hx rfl (hb hby at_260) rfl rfl ?_
        refine XS.aload X62.here hx rfl (hb hby at_261) rfl rfl ?_
        exact kt
      have f64 := (((((((((Ex8.wr W10).wr W48).wr W50).wr W52).wr W54).wr W56).wr W58).wr W60).ext E62)
      obtain ⟨_, _, ⟨T65, L65, k65, n65⟩, -, X65, ⟨Lc65, hQ65, l65, y65, z65⟩, st65⟩ := X62.specialBack hx (y := (⟨"com/example/fair_witness/fairwitness/attestation/DerReader", "<init>", "([B)V"⟩ : MethodName)) rfl hown (mvT hZ (hw _ (List.mem_of_getElem? (i := 8) rfl))) (mvT hZ (hw _ (List.mem_of_getElem? (i := 9) rfl))) (mvT hZ (hw _ (List.mem_of_getElem? (i := 10) rfl))) (by decide) (backOf (W := 1) (rm2 l Z a0 hw [] b62 b8 k8 (48 : Int32) (2 : Int32) tA (0 : Int32) tT (2 : Int32) c0 c1 h62 n0 (Nat.le_trans Z0 K62.1) F_bytes_b62 F_position_b62 F_end_b62 A62 g_b62 (V60.ext E62)) hZ (hw _ (List.mem_of_getElem? (i := 10) rfl)) (hw _ (List.mem_of_getElem? (i := 7) rfl)) (by decide) (by decide)) (g := (mkF m 263 #[iv p0, iv p1, iv p2, iv p3, iv p4, iv mm, iv tA, iv tB, iv tT, iv c0, iv c1, iv c2, iv c3, rv b8, .unset, .unset, .unset] [(.ref b8), (.ref b62), (.ref b62)])) rfl (by rw [hml]; rfl) (Steps.refl _) (a := b62) (argsL := [(.ref b8)]) (rest := [(.ref b62)]) (lenOf pd12 rfl) rfl (by show 2 * 0 + _ ≤ _; exact Nat.le_of_eq rfl) (hb hby at_263) (fun _ _ => ⟨rfl, e62, (by decide : 2 + 0 ≤ _), (by decide : 11 + 0 ≤ _)⟩)
      dsimp only [Pt.U, Pt.locs, Pt.cells, Pt.slots] at X65 l65 y65 z65 st65 hQ65
      subst l65 y65 z65
      obtain ⟨rfl, N65q, Kc65, Fb_65, Fp_65, Fe_65⟩ := hQ65
      have N65 := Fr.app N60 N65q
      have K65 : Keep h0 T65.heap [] := K62.trans Kc65 (allS (Or.inr sz_b62) all0)
      have pre66 : ∀ t, Steps p.tables e below (T65.setTop (mkF m 270 #[iv p0, iv p1, iv p2, iv p3, iv p4, iv mm, iv tA, iv tB, iv tT, iv c0, iv c1, iv c2, iv c3, rv b8, rv b62, .unset, .unset] [(.ref b62)])) t → Steps p.tables e below (s₁.setTop (entryFrame m #[(.int p0), (.int p1), (.int p2), (.int p3), (.int p4)] maxLocals)) t := by
        intro t kt
        refine pre63 _ ?_
        show Steps p.tables e below (T62.setTop (mkF m 263 #[iv p0, iv p1, iv p2, iv p3, iv p4, iv mm, iv tA, iv tB, iv tT, iv c0, iv c1, iv c2, iv c3, rv b8, .unset, .unset, .unset] [(.ref b8), (.ref b62), (.ref b62)])) _
        refine st65.trans ?_
        show Steps p.tables e below (T65.setTop (mkF m 266 #[iv p0, iv p1, iv p2, iv p3, iv p4, iv mm, iv tA, iv tB, iv tT, iv c0, iv c1, iv c2, iv c3, rv b8, .unset, .unset, .unset] [(.ref b62)])) _
        refine XS.astore X65.here hx rfl (hb hby at_266) rfl rfl (l' := #[iv p0, iv p1, iv p2, iv p3, iv p4, iv mm, iv tA, iv tB, iv tT, iv c0, iv c1, iv c2, iv c3, rv b8, rv b62, .unset, .unset]) rfl ?_
        refine XS.aload X65.here hx rfl (hb hby at_268) rfl rfl ?_
        exact kt
      have f67 := ((V60.ext E62).keep Kc65 (ninS (Exa.ne (f64.keep Kc65) (A62.keep Kc65) (by decide)) nin0))
      obtain ⟨cq68, kq68, q68a, q68b, q68c⟩ := isOf hZ rfl (A62.keep Kc65)
      obtain ⟨_, _, ⟨T68, L68, k68, n68⟩, -, X68, hSc68, hgr68, ⟨Lc68, hQ68, l68, y68, z68⟩, st68⟩ := X65.virtualBackS hx (y := (⟨"com/example/fair_witness/fairwitness/attestation/DerReader", "readSequence", "()Lcom/example/fair_witness/fairwitness/attestation/DerReader;"⟩ : MethodName)) (z := (⟨"com/example/fair_witness/fairwitness/attestation/DerReader", "readSequence", "()Lcom/example/fair_witness/fairwitness/attestation/DerReader;"⟩ : MethodName)) hown (mvT hZ (hw _ (List.mem_of_getElem? (i := 23) rfl))) (mvT hZ (hw _ (List.mem_of_getElem? (i := 24) rfl))) (notFace_of_selects (args := #[]) (mvT hZ (hw _ (List.mem_of_getElem? (i := 26) rfl)))) (mvT hZ (hw _ (List.mem_of_getElem? (i := 26) rfl))) (mvT hZ (hw _ (List.mem_of_getElem? (i := 25) rfl))) (by decide) (backOfS (W := 0) (rm5 l Z a0 hw [] b62 b8 k8 (48 : Int32) (2 : Int32) tA (0 : Int32) tT (2 : Int32) c0 c1 (2 : Int32) (4 : Int32) T65.heap n0 (Nat.le_trans Z0 K65.1) Fb_65 Fp_65 Fe_65 (A62.keep Kc65) g_b62 f67 (f64.keep Kc65) (by decide) (by decide) (by decide) (by decide) (by decide) (by decide)) hZ (hw _ (List.mem_of_getElem? (i := 27) rfl)) (hw _ (List.mem_of_getElem? (i := 7) rfl)) (by decide) (by decide)) q68a q68c (g := (mkF m 270 #[iv p0, iv p1, iv p2, iv p3, iv p4, iv mm, iv tA, iv tB, iv tT, iv c0, iv c1, iv c2, iv c3, rv b8, rv b62, .unset, .unset] [(.ref b62)])) rfl (by rw [hml]; rfl) (Steps.refl _) (argsL := []) (rest := []) (lenOf pd13 rfl) rfl (by show 2 * 0 + _ ≤ _; exact Nat.le_of_eq rfl) (hb hby at_270) (fun _ _ => ⟨rfl, rfl, (by decide : 2 + 3 ≤ _), (by decide : 11 + 39 ≤ _)⟩)
      dsimp only [Pt.U, Pt.locs, Pt.cells, Pt.slots] at X68 l68 y68 z68 st68 hQ68 hSc68 hgr68
      subst l68 y68 z68
      obtain ⟨x68, rfl, N68q, Kc68, hx68, Fb_68, Fp_68, Fe_68, Ex_68, Fbx_68, Fpx_68, Fex_68⟩ := hQ68
      have N68 := Fr.app N65 N68q
      obtain ⟨X68, hS68, hZ, hown⟩ := rebS (s := s) (vm0 := s.vm) hS0 (Nat.le_trans (Nat.le_trans (Nat.le_trans (Nat.le_trans (Nat.le_trans (Nat.le_trans (Nat.le_trans (Nat.le_trans (Nat.le_trans (Nat.le_trans (Nat.le_trans (Nat.le_refl _) E8.1) (Nat.le_of_eq W10.size.symm)) (Nat.le_of_eq W48.size.symm)) (Nat.le_of_eq W50.size.symm)) (Nat.le_of_eq W52.size.symm)) (Nat.le_of_eq W54.size.symm)) (Nat.le_of_eq W56.size.symm)) (Nat.le_of_eq W58.size.symm)) (Nat.le_of_eq W60.size.symm)) E62.1) Kc65.1) X68 hSc68 hgr68 hZ hown
      have K68 : Keep h0 T68.heap [] := K65.trans Kc68 (allS (Or.inr sz_b62) all0)
      have g_x68 : n0 ≤ x68 := Nat.le_trans (Nat.le_trans Z0 K65.1) hx68
      have sz_x68 : h0.size ≤ x68 := Nat.le_trans K65.1 hx68
      have ne_68 : b62 ≠ x68 := Nat.ne_of_lt (Nat.lt_of_lt_of_le (A62.keep Kc65).lt hx68)
      have pre69 : ∀ t, Steps p.tables e below (T68.setTop (mkF m 277 #[iv p0, iv p1, iv p2, iv p3, iv p4, iv mm, iv tA, iv tB, iv tT, iv c0, iv c1, iv c2, iv c3, rv b8, rv b62, rv x68, .unset] [(.ref b62)])) t → Steps p.tables e below (s₁.setTop (entryFrame m #[(.int p0), (.int p1), (.int p2), (.int p3), (.int p4)] maxLocals)) t := by
        intro t kt
        refine pre66 _ ?_
        show Steps p.tables e below (T65.setTop (mkF m 270 #[iv p0, iv p1, iv p2, iv p3, iv p4, iv mm, iv tA, iv tB, iv tT, iv c0, iv c1, iv c2, iv c3, rv b8, rv b62, .unset, .unset] [(.ref b62)])) _
        refine st68.trans ?_
        show Steps p.tables e below (T68.setTop (mkF m 273 #[iv p0, iv p1, iv p2, iv p3, iv p4, iv mm, iv tA, iv tB, iv tT, iv c0, iv c1, iv c2, iv c3, rv b8, rv b62, .unset, .unset] [(.ref x68)])) _
        refine XS.astore X68.here hx rfl (hb hby at_273) rfl rfl (l' := #[iv p0, iv p1, iv p2, iv p3, iv p4, iv mm, iv tA, iv tB, iv tT, iv c0, iv c1, iv c2, iv c3, rv b8, rv b62, rv x68, .unset]) rfl ?_
        refine XS.aload X68.here hx rfl (hb hby at_275) rfl rfl ?_
        exact kt
      have f70 := ((f64.keep Kc65).keep Kc68)
      have f71 := ((A62.keep Kc65).keep Kc68)
      obtain ⟨cq72, kq72, q72a, q72b, q72c⟩ := isOf hZ rfl f71
      obtain ⟨_, _, ⟨T72, L72, k72, n72⟩, -, X72, ⟨Lc72, hQ72, l72, y72, z72⟩, st72⟩ := X68.virtualBack hx (y := (⟨"com/example/fair_witness/fairwitness/attestation/DerReader", "hasMore", "()Z"⟩ : MethodName)) (z := (⟨"com/example/fair_witness/fairwitness/attestation/DerReader", "hasMore", "()Z"⟩ : MethodName)) hown (mvT hZ (hw _ (List.mem_of_getElem? (i := 52) rfl))) (mvT hZ (hw _ (List.mem_of_getElem? (i := 53) rfl))) (notFace_of_selects (args := #[]) (mvT hZ (hw _ (List.mem_of_getElem? (i := 55) rfl)))) (mvT hZ (hw _ (List.mem_of_getElem? (i := 55) rfl))) (mvT hZ (hw _ (List.mem_of_getElem? (i := 54) rfl))) (by decide) (backOf (W := 0) (rm10i1 l Z a0 hw [] b62 b8 (4 : Int32) (8 : Int32) T68.heap n0 (Nat.le_trans Z0 K68.1) Fb_68 Fp_68 Fe_68 f71 (by decide)) hZ (hw _ (List.mem_of_getElem? (i := 56) rfl)) (hw _ (List.mem_of_getElem? (i := 7) rfl)) (by decide) (by decide)) q72a q72c (g := (mkF m 277 #[iv p0, iv p1, iv p2, iv p3, iv p4, iv mm, iv tA, iv tB, iv tT, iv c0, iv c1, iv c2, iv c3, rv b8, rv b62, rv x68, .unset] [(.ref b62)])) rfl (by rw [hml]; rfl) (Steps.refl _) (argsL := []) (rest := []) (lenOf pd14 rfl) rfl (by show 2 * 0 + _ ≤ _; exact Nat.le_of_eq rfl) (hb hby at_277) (fun _ _ => ⟨rfl, rfl, (by decide : 5 + 0 ≤ _), (by decide : 50 + 0 ≤ _)⟩)
      dsimp only [Pt.U, Pt.locs, Pt.cells, Pt.slots] at X72 l72 y72 z72 st72 hQ72
      subst l72 y72 z72
      obtain ⟨rfl, N72q, hh72⟩ := hQ72
      have N72 := Fr.app N68 N72q
      have pre73 : ∀ t, Steps p.tables e below (T72.setTop (mkF m 289 #[iv p0, iv p1, iv p2, iv p3, iv p4, iv mm, iv tA, iv tB, iv tT, iv c0, iv c1, iv c2, iv c3, rv b8, rv b62, rv x68, iv (1 : Int32)] [(.ref x68)])) t → Steps p.tables e below (s₁.setTop (entryFrame m #[(.int p0), (.int p1), (.int p2), (.int p3), (.int p4)] maxLocals)) t := by
        intro t kt
        refine pre69 _ ?_
        show Steps p.tables e below (T68.setTop (mkF m 277 #[iv p0, iv p1, iv p2, iv p3, iv p4, iv mm, iv tA, iv tB, iv tT, iv c0, iv c1, iv c2, iv c3, rv b8, rv b62, rv x68, .unset] [(.ref b62)])) _
        refine st72.trans ?_
        show Steps p.tables e below (T72.setTop (mkF m 280 #[iv p0, iv p1, iv p2, iv p3, iv p4, iv mm, iv tA, iv tB, iv tT, iv c0, iv c1, iv c2, iv c3, rv b8, rv b62, rv x68, .unset] [(.int (1 : Int32))])) _
        refine XS.istore X72.here hx rfl (hb hby at_280) rfl (l' := #[iv p0, iv p1, iv p2, iv p3, iv p4, iv mm, iv tA, iv tB, iv tT, iv c0, iv c1, iv c2, iv c3, rv b8, rv b62, rv x68, iv (1 : Int32)]) rfl ?_
        refine XS.iload X72.here hx rfl (hb hby at_282) rfl ?_
        refine XS.ifNo X72.here hx rfl (hb hby at_284) rfl ((if0 _ _).trans (feq (by decide)).1) ?_
        refine XS.aload X72.here hx rfl (hb hby at_287) rfl rfl ?_
        exact kt
      obtain ⟨cq74, kq74, q74a, q74b, q74c⟩ := isOf hZ hh72 Ex_68
      obtain ⟨_, _, ⟨T74, L74, k74, n74⟩, -, X74, ⟨Lc74, hQ74, l74, y74, z74⟩, st74⟩ := X72.virtualBack hx (y := (⟨"com/example/fair_witness/fairwitness/attestation/DerReader", "hasMore", "()Z"⟩ : MethodName)) (z := (⟨"com/example/fair_witness/fairwitness/attestation/DerReader", "hasMore", "()Z"⟩ : MethodName)) hown (mvT hZ (hw _ (List.mem_of_getElem? (i := 52) rfl))) (mvT hZ (hw _ (List.mem_of_getElem? (i := 53) rfl))) (notFace_of_selects (args := #[]) (mvT hZ (hw _ (List.mem_of_getElem? (i := 55) rfl)))) (mvT hZ (hw _ (List.mem_of_getElem? (i := 55) rfl))) (mvT hZ (hw _ (List.mem_of_getElem? (i := 54) rfl))) (by decide) (backOf (W := 0) (rm10i1 l Z a0 hw [] x68 b8 (2 : Int32) (4 : Int32) T68.heap n0 (Nat.le_trans Z0 K68.1) Fbx_68 Fpx_68 Fex_68 Ex_68 (by decide)) hZ (hw _ (List.mem_of_getElem? (i := 56) rfl)) (hw _ (List.mem_of_getElem? (i := 7) rfl)) (by decide) (by decide)) q74a q74c (g := (mkF m 289 #[iv p0, iv p1, iv p2, iv p3, iv p4, iv mm, iv tA, iv tB, iv tT, iv c0, iv c1, iv c2, iv c3, rv b8, rv b62, rv x68, iv (1 : Int32)] [(.ref x68)])) rfl (by rw [hml]; rfl) (Steps.refl _) (argsL := []) (rest := []) (lenOf pd14 rfl) rfl (by show 2 * 0 + _ ≤ _; exact Nat.le_of_eq rfl) (hb hby at_289) (fun _ _ => ⟨rfl, hh72, (by decide : 5 + 0 ≤ _), (by decide : 50 + 0 ≤ _)⟩)
      dsimp only [Pt.U, Pt.locs, Pt.cells, Pt.slots] at X74 l74 y74 z74 st74 hQ74
      subst l74 y74 z74
      obtain ⟨rfl, N74q, hh74⟩ := hQ74
      have N74 := Fr.app N72 N74q
      have pre75 : ∀ t, Steps p.tables e below (T74.setTop (mkF m 319 #[iv p0, iv p1, iv p2, iv p3, iv p4, iv mm, iv tA, iv tB, iv tT, iv c0, iv c1, iv c2, iv c3, rv b8, rv b62, rv x68, iv (1 : Int32)] [(.ref x68)])) t → Steps p.tables e below (s₁.setTop (entryFrame m #[(.int p0), (.int p1), (.int p2), (.int p3), (.int p4)] maxLocals)) t := by
        intro t kt
        refine pre73 _ ?_
        show Steps p.tables e below (T72.setTop (mkF m 289 #[iv p0, iv p1, iv p2, iv p3, iv p4, iv mm, iv tA, iv tB, iv tT, iv c0, iv c1, iv c2, iv c3, rv b8, rv b62, rv x68, iv (1 : Int32)] [(.ref x68)])) _
        refine st74.trans ?_
        show Steps p.tables e below (T74.setTop (mkF m 292 #[iv p0, iv p1, iv p2, iv p3, iv p4, iv mm, iv tA, iv tB, iv tT, iv c0, iv c1, iv c2, iv c3, rv b8, rv b62, rv x68, iv (1 : Int32)] [(.int (1 : Int32))])) _
        refine XS.iload X74.here hx rfl (hb hby at_292) rfl ?_
        refine XS.ifNo X74.here hx rfl (hb hby at_294) rfl ((if0 _ _).trans (feq hc69).1) ?_
        refine XS.iconst X74.here hx rfl (hb hby at_297) ?_
        refine XS.goto X74.here hx rfl (pc0 := 298) (pc' := 302) rfl (hb hby at_298) (by decide) (by decide) ?_
        refine XS.icmpNo X74.here hx rfl (hb hby at_302) rfl (teq (by decide)).2 ?_
        refine XS.iconst X74.here hx rfl (hb hby at_305) ?_
        refine XS.goto X74.here hx rfl (pc0 := 306) (pc' := 310) rfl (hb hby at_306) (by decide) (by decide) ?_
        refine XS.istore X74.here hx rfl (hb hby at_310) rfl (l' := #[iv p0, iv p1, iv p2, iv p3, iv p4, iv mm, iv tA, iv tB, iv tT, iv c0, iv c1, iv c2, iv c3, rv b8, rv b62, rv x68, iv (1 : Int32)]) rfl ?_
        refine XS.iload X74.here hx rfl (hb hby at_312) rfl ?_
        refine XS.ifNo X74.here hx rfl (hb hby at_314) rfl ((if0 _ _).trans (feq hc69).1) ?_
        refine XS.aload X74.here hx rfl (hb hby at_317) rfl rfl ?_
        exact kt
      obtain ⟨cq76, kq76, q76a, q76b, q76c⟩ := isOf hZ hh74 Ex_68
      obtain ⟨_, _, ⟨T76, L76, k76, n76⟩, -, X76, hSc76, hgr76, ⟨Lc76, hQ76, l76, y76, z76⟩, st76⟩ := X74.virtualBackS hx (y := (⟨"com/example/fair_witness/fairwitness/attestation/DerReader", "readElement", "()[B"⟩ : MethodName)) (z := (⟨"com/example/fair_witness/fairwitness/attestation/DerReader", "readElement", "()[B"⟩ : MethodName)) hown (mvT hZ (hw _ (List.mem_of_getElem? (i := 57) rfl))) (mvT hZ (hw _ (List.mem_of_getElem? (i := 58) rfl))) (notFace_of_selects (args := #[]) (mvT hZ (hw _ (List.mem_of_getElem? (i := 60) rfl)))) (mvT hZ (hw _ (List.mem_of_getElem? (i := 60) rfl))) (mvT hZ (hw _ (List.mem_of_getElem? (i := 59) rfl))) (by decide) (backOfS (W := 0) (rm11i2_0_4 l Z a0 hw [] x68 b8 k8 (48 : Int32) (2 : Int32) tA (0 : Int32) tT (2 : Int32) c0 c1 T68.heap n0 (Nat.le_trans Z0 K68.1) Fbx_68 Fpx_68 Fex_68 Ex_68 g_x68 (f67.keep Kc68 (ninS (Exa.ne f70 f71 (by decide)) nin0)) f70 (by rw [h_tA]; exact own_tagok _) (by decide)) hZ (hw _ (List.mem_of_getElem? (i := 61) rfl)) (hw _ (List.mem_of_getElem? (i := 7) rfl)) (by decide) (by decide)) q76a q76c (g := (mkF m 319 #[iv p0, iv p1, iv p2, iv p3, iv p4, iv mm, iv tA, iv tB, iv tT, iv c0, iv c1, iv c2, iv c3, rv b8, rv b62, rv x68, iv (1 : Int32)] [(.ref x68)])) rfl (by rw [hml]; rfl) (Steps.refl _) (argsL := []) (rest := []) (lenOf pd15 rfl) rfl (by show 2 * 0 + _ ≤ _; exact Nat.le_of_eq rfl) (hb hby at_319) (fun _ _ => ⟨rfl, hh74, (by decide : 5 + 3 ≤ _), (by decide : 50 + 34 ≤ _)⟩)
      dsimp only [Pt.U, Pt.locs, Pt.cells, Pt.slots] at X76 l76 y76 z76 st76 hQ76 hSc76 hgr76
      subst l76 y76 z76
      obtain ⟨y76, rfl, N76q, Kc76, Fb_76, Fp_76, Fe_76⟩ := hQ76
      have N76 := Fr.app N74 N76q
      obtain ⟨X76, hS76, hZ, hown⟩ := rebS (s := s) (vm0 := T68.vm) hS68 (by rw [hh74]; exact (Nat.le_refl _)) X76 hSc76 hgr76 hZ hown
      have K76 : Keep h0 T76.heap [] := K68.trans Kc76 (allS (Or.inr sz_x68) all0)
      have pre77 : ∀ t, Steps p.tables e below (T76.setTop (mkF m 330 #[iv p0, iv p1, iv p2, iv p3, iv p4, iv mm, iv tA, iv tB, iv tT, iv c0, iv c1, iv c2, iv c3, rv b8, rv b62, rv x68, iv (1 : Int32)] [(.ref x68)])) t → Steps p.tables e below (s₁.setTop (entryFrame m #[(.int p0), (.int p1), (.int p2), (.int p3), (.int p4)] maxLocals)) t := by
        intro t kt
        refine pre75 _ ?_
        show Steps p.tables e below (T74.setTop (mkF m 319 #[iv p0, iv p1, iv p2, iv p3, iv p4, iv mm, iv tA, iv tB, iv tT, iv c0, iv c1, iv c2, iv c3, rv b8, rv b62, rv x68, iv (1 : Int32)] [(.ref x68)])) _
        refine st76.trans ?_
        show Steps p.tables e below (T76.setTop (mkF m 322 #[iv p0, iv p1, iv p2, iv p3, iv p4, iv mm, iv tA, iv tB, iv tT, iv c0, iv c1, iv c2, iv c3, rv b8, rv b62, rv x68, iv (1 : Int32)] [(.ref y76)])) _
        refine XS.pop X76.here hx rfl (hb hby at_322) rfl rfl ?_
        refine XS.iload X76.here hx rfl (hb hby at_323) rfl ?_
        refine XS.ifNo X76.here hx rfl (hb hby at_325) rfl ((if0 _ _).trans (feq (by decide)).1) ?_
        refine XS.aload X76.here hx rfl (hb hby at_328) rfl rfl ?_
        exact kt
      have f78 := ((f67.keep Kc68 (ninS (Exa.ne (f70.keep Kc76) (f71.keep Kc76) (by decide)) nin0)).keep Kc76 (ninS (Exa.ne (f70.keep Kc76) (Ex_68.keep Kc76) (by decide)) nin0))
      obtain ⟨cq79, kq79, q79a, q79b, q79c⟩ := isOf hZ rfl (Ex_68.keep Kc76)
      obtain ⟨_, _, ⟨T79, L79, k79, n79⟩, -, X79, ⟨Lc79, hQ79, l79, y79, z79⟩, st79⟩ := X76.virtualBack hx (y := (⟨"com/example/fair_witness/fairwitness/attestation/DerReader", "hasMore", "()Z"⟩ : MethodName)) (z := (⟨"com/example/fair_witness/fairwitness/attestation/DerReader", "hasMore", "()Z"⟩ : MethodName)) hown (mvT hZ (hw _ (List.mem_of_getElem? (i := 52) rfl))) (mvT hZ (hw _ (List.mem_of_getElem? (i := 53) rfl))) (notFace_of_selects (args := #[]) (mvT hZ (hw _ (List.mem_of_getElem? (i := 55) rfl)))) (mvT hZ (hw _ (List.mem_of_getElem? (i := 55) rfl))) (mvT hZ (hw _ (List.mem_of_getElem? (i := 54) rfl))) (by decide) (backOf (W := 0) (rm10i0 l Z a0 hw [] x68 b8 (4 : Int32) (4 : Int32) T76.heap n0 (Nat.le_trans Z0 K76.1) Fb_76 Fp_76 Fe_76 (Ex_68.keep Kc76) (by decide)) hZ (hw _ (List.mem_of_getElem? (i := 56) rfl)) (hw _ (List.mem_of_getElem? (i := 7) rfl)) (by decide) (by decide)) q79a q79c (g := (mkF m 330 #[iv p0, iv p1, iv p2, iv p3, iv p4, iv mm, iv tA, iv tB, iv tT, iv c0, iv c1, iv c2, iv c3, rv b8, rv b62, rv x68, iv (1 : Int32)] [(.ref x68)])) rfl (by rw [hml]; rfl) (Steps.refl _) (argsL := []) (rest := []) (lenOf pd14 rfl) rfl (by show 2 * 0 + _ ≤ _; exact Nat.le_of_eq rfl) (hb hby at_330) (fun _ _ => ⟨rfl, rfl, (by decide : 8 + 0 ≤ _), (by decide : 84 + 0 ≤ _)⟩)
      dsimp only [Pt.U, Pt.locs, Pt.cells, Pt.slots] at X79 l79 y79 z79 st79 hQ79
      subst l79 y79 z79
      obtain ⟨rfl, N79q, hh79⟩ := hQ79
      have N79 := Fr.app N76 N79q
      have pre81 : ∀ t, Steps p.tables e below (T79.setTop (mkF m 336 #[iv p0, iv p1, iv p2, iv p3, iv p4, iv mm, iv tA, iv tB, iv tT, iv c0, iv c1, iv c2, iv c3, rv b8, rv b62, rv x68, iv (1 : Int32)] [(.int (3 : Int32)), (.int mm), (.int (0 : Int32))])) t → Steps p.tables e below (s₁.setTop (entryFrame m #[(.int p0), (.int p1), (.int p2), (.int p3), (.int p4)] maxLocals)) t := by
        intro t kt
        refine pre77 _ ?_
        show Steps p.tables e below (T76.setTop (mkF m 330 #[iv p0, iv p1, iv p2, iv p3, iv p4, iv mm, iv tA, iv tB, iv tT, iv c0, iv c1, iv c2, iv c3, rv b8, rv b62, rv x68, iv (1 : Int32)] [(.ref x68)])) _
        refine st79.trans ?_
        show Steps p.tables e below (T79.setTop (mkF m 333 #[iv p0, iv p1, iv p2, iv p3, iv p4, iv mm, iv tA, iv tB, iv tT, iv c0, iv c1, iv c2, iv c3, rv b8, rv b62, rv x68, iv (1 : Int32)] [(.int (0 : Int32))])) _
        refine XS.iload X79.here hx rfl (hb hby at_333) rfl ?_
        refine XS.iconst X79.here hx rfl (hb hby at_335) ?_
        exact kt
      have hc336_80 : ¬ (mm = (3 : Int32)) := by rw [hc120]; decide
      have pre82 : ∀ t, Steps p.tables e below (T79.setTop (mkF m 388 #[iv p0, iv p1, iv p2, iv p3, iv p4, iv mm, iv tA, iv tB, iv tT, iv c0, iv c1, iv c2, iv c3, rv b8, rv b62, rv x68, iv (1 : Int32)] [(.ref b62)])) t → Steps p.tables e below (s₁.setTop (entryFrame m #[(.int p0), (.int p1), (.int p2), (.int p3), (.int p4)] maxLocals)) t := by
        intro t kt
        refine pre81 _ ?_
        show Steps p.tables e below (T79.setTop (mkF m 336 #[iv p0, iv p1, iv p2, iv p3, iv p4, iv mm, iv tA, iv tB, iv tT, iv c0, iv c1, iv c2, iv c3, rv b8, rv b62, rv x68, iv (1 : Int32)] [(.int (3 : Int32)), (.int mm), (.int (0 : Int32))])) _
        refine XS.icmpYes X79.here hx rfl (pc0 := 336) (pc' := 343) rfl (hb hby at_336) rfl (feq hc336_80).2 (by decide) (by decide) ?_
        refine XS.iconst X79.here hx rfl (hb hby at_343) ?_
        refine XS.icmpNo X79.here hx rfl (hb hby at_344) rfl (teq (by decide)).2 ?_
        refine XS.iconst X79.here hx rfl (hb hby at_347) ?_
        refine XS.goto X79.here hx rfl (pc0 := 348) (pc' := 352) rfl (hb hby at_348) (by decide) (by decide) ?_
        refine XS.istore X79.here hx rfl (hb hby at_352) rfl (l' := #[iv p0, iv p1, iv p2, iv p3, iv p4, iv mm, iv tA, iv tB, iv tT, iv c0, iv c1, iv c2, iv c3, rv b8, rv b62, rv x68, iv (1 : Int32)]) rfl ?_
        refine XS.iload X79.here hx rfl (hb hby at_354) rfl ?_
        refine XS.iconst X79.here hx rfl (hb hby at_356) ?_
        refine XS.icmpYes X79.here hx rfl (pc0 := 357) (pc' := 386) rfl (hb hby at_357) rfl (feq hc336_80).2 (by decide) (by decide) ?_
        refine XS.aload X79.here hx rfl (hb hby at_386) rfl rfl ?_
        exact kt
      obtain ⟨cq83, kq83, q83a, q83b, q83c⟩ := isOf hZ hh79 (f71.keep Kc76)
      obtain ⟨_, _, ⟨T83, L83, k83, n83⟩, -, X83, hSc83, hgr83, ⟨Lc83, hQ83, l83, y83, z83⟩, st83⟩ := X79.virtualBackS hx (y := (⟨"com/example/fair_witness/fairwitness/attestation/DerReader", "readElement", "()[B"⟩ : MethodName)) (z := (⟨"com/example/fair_witness/fairwitness/attestation/DerReader", "readElement", "()[B"⟩ : MethodName)) hown (mvT hZ (hw _ (List.mem_of_getElem? (i := 57) rfl))) (mvT hZ (hw _ (List.mem_of_getElem? (i := 58) rfl))) (notFace_of_selects (args := #[]) (mvT hZ (hw _ (List.mem_of_getElem? (i := 60) rfl)))) (mvT hZ (hw _ (List.mem_of_getElem? (i := 60) rfl))) (mvT hZ (hw _ (List.mem_of_getElem? (i := 59) rfl))) (by decide) (backOfS (W := 0) (rm11i4_2_8 l Z a0 hw [] b62 b8 k8 (48 : Int32) (2 : Int32) tA (0 : Int32) tT (2 : Int32) c0 c1 T76.heap n0 (Nat.le_trans Z0 K76.1) (Fb_68.keep Kc76 (ninS ne_68 nin0)) (Fp_68.keep Kc76 (ninS ne_68 nin0)) (Fe_68.keep Kc76 (ninS ne_68 nin0)) (f71.keep Kc76) g_b62 f78 (f70.keep Kc76) (by rw [h_tT]; exact own_tagok _) (by decide)) hZ (hw _ (List.mem_of_getElem? (i := 61) rfl)) (hw _ (List.mem_of_getElem? (i := 7) rfl)) (by decide) (by decide)) q83a q83c (g := (mkF m 388 #[iv p0, iv p1, iv p2, iv p3, iv p4, iv mm, iv tA, iv tB, iv tT, iv c0, iv c1, iv c2, iv c3, rv b8, rv b62, rv x68, iv (1 : Int32)] [(.ref b62)])) rfl (by rw [hml]; rfl) (Steps.refl _) (argsL := []) (rest := []) (lenOf pd15 rfl) rfl (by show 2 * 0 + _ ≤ _; exact Nat.le_of_eq rfl) (hb hby at_388) (fun _ _ => ⟨rfl, hh79, (by decide : 8 + 3 ≤ _), (by decide : 84 + 36 ≤ _)⟩)
      dsimp only [Pt.U, Pt.locs, Pt.cells, Pt.slots] at X83 l83 y83 z83 st83 hQ83 hSc83 hgr83
      subst l83 y83 z83
      obtain ⟨y83, rfl, N83q, Kc83, Fb_83, Fp_83, Fe_83⟩ := hQ83
      have N83 := Fr.app N79 N83q
      obtain ⟨X83, hS83, hZ, hown⟩ := rebS (s := s) (vm0 := T76.vm) hS76 (by rw [hh79]; exact (Nat.le_refl _)) X83 hSc83 hgr83 hZ hown
      have K83 : Keep h0 T83.heap [] := K76.trans Kc83 (allS (Or.inr sz_b62) all0)
      have pre84 : ∀ t, Steps p.tables e below (T83.setTop (mkF m 399 #[iv p0, iv p1, iv p2, iv p3, iv p4, iv mm, iv tA, iv tB, iv tT, iv c0, iv c1, iv c2, iv c3, rv b8, rv b62, rv x68, iv (1 : Int32)] [(.ref b62)])) t → Steps p.tables e below (s₁.setTop (entryFrame m #[(.int p0), (.int p1), (.int p2), (.int p3), (.int p4)] maxLocals)) t := by
        intro t kt
        refine pre82 _ ?_
        show Steps p.tables e below (T79.setTop (mkF m 388 #[iv p0, iv p1, iv p2, iv p3, iv p4, iv mm, iv tA, iv tB, iv tT, iv c0, iv c1, iv c2, iv c3, rv b8, rv b62, rv x68, iv (1 : Int32)] [(.ref b62)])) _
        refine st83.trans ?_
        show Steps p.tables e below (T83.setTop (mkF m 391 #[iv p0, iv p1, iv p2, iv p3, iv p4, iv mm, iv tA, iv tB, iv tT, iv c0, iv c1, iv c2, iv c3, rv b8, rv b62, rv x68, iv (1 : Int32)] [(.ref y83)])) _
        refine XS.pop X83.here hx rfl (hb hby at_391) rfl rfl ?_
        refine XS.iload X83.here hx rfl (hb hby at_392) rfl ?_
        refine XS.ifNo X83.here hx rfl (hb hby at_394) rfl ((if0 _ _).trans (feq (by decide)).1) ?_
        refine XS.aload X83.here hx rfl (hb hby at_397) rfl rfl ?_
        exact kt
      have f85 := ((f70.keep Kc76).keep Kc83)
      have f86 := ((f71.keep Kc76).keep Kc83)
      have f87 := ((Ex_68.keep Kc76).keep Kc83)
      obtain ⟨cq88, kq88, q88a, q88b, q88c⟩ := isOf hZ rfl f86
      obtain ⟨_, _, ⟨T88, L88, k88, n88⟩, -, X88, ⟨Lc88, hQ88, l88, y88, z88⟩, st88⟩ := X83.virtualBack hx (y := (⟨"com/example/fair_witness/fairwitness/attestation/DerReader", "hasMore", "()Z"⟩ : MethodName)) (z := (⟨"com/example/fair_witness/fairwitness/attestation/DerReader", "hasMore", "()Z"⟩ : MethodName)) hown (mvT hZ (hw _ (List.mem_of_getElem? (i := 52) rfl))) (mvT hZ (hw _ (List.mem_of_getElem? (i := 53) rfl))) (notFace_of_selects (args := #[]) (mvT hZ (hw _ (List.mem_of_getElem? (i := 55) rfl)))) (mvT hZ (hw _ (List.mem_of_getElem? (i := 55) rfl))) (mvT hZ (hw _ (List.mem_of_getElem? (i := 54) rfl))) (by decide) (backOf (W := 0) (rm10i0 l Z a0 hw [] b62 b8 (8 : Int32) (8 : Int32) T83.heap n0 (Nat.le_trans Z0 K83.1) Fb_83 Fp_83 Fe_83 f86 (by decide)) hZ (hw _ (List.mem_of_getElem? (i := 56) rfl)) (hw _ (List.mem_of_getElem? (i := 7) rfl)) (by decide) (by decide)) q88a q88c (g := (mkF m 399 #[iv p0, iv p1, iv p2, iv p3, iv p4, iv mm, iv tA, iv tB, iv tT, iv c0, iv c1, iv c2, iv c3, rv b8, rv b62, rv x68, iv (1 : Int32)] [(.ref b62)])) rfl (by rw [hml]; rfl) (Steps.refl _) (argsL := []) (rest := []) (lenOf pd14 rfl) rfl (by show 2 * 0 + _ ≤ _; exact Nat.le_of_eq rfl) (hb hby at_399) (fun _ _ => ⟨rfl, rfl, (by decide : 11 + 0 ≤ _), (by decide : 120 + 0 ≤ _)⟩)
      dsimp only [Pt.U, Pt.locs, Pt.cells, Pt.slots] at X88 l88 y88 z88 st88 hQ88
      subst l88 y88 z88
      obtain ⟨rfl, N88q, hh88⟩ := hQ88
      have N88 := Fr.app N83 N88q
      have pre89 : ∀ t, Steps p.tables e below (T88.setTop (mkF m 414 #[iv p0, iv p1, iv p2, iv p3, iv p4, iv mm, iv tA, iv tB, iv tT, iv c0, iv c1, iv c2, iv c3, rv b8, rv b62, rv x68, iv (1 : Int32)] [(.int (1 : Int32))])) t → Steps p.tables e below (s₁.setTop (entryFrame m #[(.int p0), (.int p1), (.int p2), (.int p3), (.int p4)] maxLocals)) t := by
        intro t kt
        refine pre84 _ ?_
        show Steps p.tables e below (T83.setTop (mkF m 399 #[iv p0, iv p1, iv p2, iv p3, iv p4, iv mm, iv tA, iv tB, iv tT, iv c0, iv c1, iv c2, iv c3, rv b8, rv b62, rv x68, iv (1 : Int32)] [(.ref b62)])) _
        refine st88.trans ?_
        show Steps p.tables e below (T88.setTop (mkF m 402 #[iv p0, iv p1, iv p2, iv p3, iv p4, iv mm, iv tA, iv tB, iv tT, iv c0, iv c1, iv c2, iv c3, rv b8, rv b62, rv x68, iv (1 : Int32)] [(.int (0 : Int32))])) _
        refine XS.ifNo X88.here hx rfl (hb hby at_402) rfl ((if0 _ _).trans (teq (by decide)).2) ?_
        refine XS.iconst X88.here hx rfl (hb hby at_405) ?_
        refine XS.goto X88.here hx rfl (pc0 := 406) (pc' := 410) rfl (hb hby at_406) (by decide) (by decide) ?_
        refine XS.istore X88.here hx rfl (hb hby at_410) rfl (l' := #[iv p0, iv p1, iv p2, iv p3, iv p4, iv mm, iv tA, iv tB, iv tT, iv c0, iv c1, iv c2, iv c3, rv b8, rv b62, rv x68, iv (1 : Int32)]) rfl ?_
        refine XS.iload X88.here hx rfl (hb hby at_412) rfl ?_
        exact kt
      obtain ⟨fs, hr, hrun, hended, hRW⟩ := Jvm.Stand.leaveW (s := s) (vm₁ := T83.vm) X88 hS83 (by rw [hh88]; exact (Nat.le_refl _)) (v := some (.int (1 : Int32))) (fun h => by rw [Bd.returns] at h; cases h)
      refine ⟨_, _, pre89 _ ?_, hrun, hended, _, _, rfl, ?_, hRW.1, hRW.2.1, hRW.2.2.1, hRW.2.2.2.mono (by decide) (by decide)⟩
      · show Steps p.tables e below (T88.setTop (mkF m 414 #[iv p0, iv p1, iv p2, iv p3, iv p4, iv mm, iv tA, iv tB, iv tT, iv c0, iv c1, iv c2, iv c3, rv b8, rv b62, rv x68, iv (1 : Int32)] [(.int (1 : Int32))])) _
        exact retN X88 hx (t := .boolean) Bd.returns (by simp) (hb hby at_414) hr
      · show Q0 Z p0 p1 p2 p3 p4 h0 n0 _ T88.heap _
        rw [hh88]
        exact ⟨rfl, N88⟩
    · have pre90 : ∀ t, Steps p.tables e below (T10.setTop (mkF m 170 #[iv p0, iv p1, iv p2, iv p3, iv p4, iv mm, iv tA, iv tB, iv tT, iv c0, iv c1, iv c2, iv c3, rv b8, .unset, .unset, .unset] [(.int (2 : Int32)), (.int mm)])) t → Steps p.tables e below (s₁.setTop (entryFrame m #[(.int p0), (.int p1), (.int p2), (.int p3), (.int p4)] maxLocals)) t := by
        intro t kt
        refine pre46 _ ?_
        show Steps p.tables e below (T10.setTop (mkF m 120 #[iv p0, iv p1, iv p2, iv p3, iv p4, iv mm, iv tA, iv tB, iv tT, iv c0, iv c1, iv c2, iv c3, rv b8, .unset, .unset, .unset] [(.int (1 : Int32)), (.int mm)])) _
        refine XS.icmpYes X10.here hx rfl (pc0 := 120) (pc' := 167) rfl (hb hby at_120) rfl (feq hc120).2 (by decide) (by decide) ?_
        refine XS.iload X10.here hx rfl (hb hby at_167) rfl ?_
        refine XS.iconst X10.here hx rfl (hb hby at_169) ?_
        exact kt
      by_cases hc170 : mm = (2 : Int32)
      · have pre91 : ∀ t, Steps p.tables e below (T10.setTop (mkF m 177 #[iv p0, iv p1, iv p2, iv p3, iv p4, iv mm, iv tA, iv tB, iv tT, iv c0, iv c1, iv c2, iv c3, rv b8, .unset, .unset, .unset] [(.int (3 : Int32)), (.int (1 : Int32)), (.ref b8)])) t → Steps p.tables e below (s₁.setTop (entryFrame m #[(.int p0), (.int p1), (.int p2), (.int p3), (.int p4)] maxLocals)) t := by
          intro t kt
          refine pre90 _ ?_
          show Steps p.tables e below (T10.setTop (mkF m 170 #[iv p0, iv p1, iv p2, iv p3, iv p4, iv mm, iv tA, iv tB, iv tT, iv c0, iv c1, iv c2, iv c3, rv b8, .unset, .unset, .unset] [(.int (2 : Int32)), (.int mm)])) _
          refine XS.icmpNo X10.here hx rfl (hb hby at_170) rfl (teq hc170).2 ?_
          refine XS.aload X10.here hx rfl (hb hby at_173) rfl rfl ?_
          refine XS.iconst X10.here hx rfl (hb hby at_175) ?_
          refine XS.iconst X10.here hx rfl (hb hby at_176) ?_
          exact kt
        obtain ⟨cl92, Ar92, q92, S92, M92, H92, G92⟩ := id V10
        have hin92 : ¬ ((1 : Int32) < 0 ∨ cl92.slots.size ≤ ((1 : Int32)).toNatClampNeg) := inb_of S92 ⟨by decide, by decide⟩
        obtain ⟨T92, h92, X92, e92, W92, st92⟩ := stB X10 hx hZ e10 Ar92 (j := (1 : Int32)) hin92 (g := (mkF m 177 #[iv p0, iv p1, iv p2, iv p3, iv p4, iv mm, iv tA, iv tB, iv tT, iv c0, iv c1, iv c2, iv c3, rv b8, .unset, .unset, .unset] [(.int (3 : Int32)), (.int (1 : Int32)), (.ref b8)])) rfl rfl (hb hby at_177)
        have nn92 : nar .byte (3 : Int32) = (3 : Int32) := (by decide)
        rw [nn92] at W92
        have V92 : Arv Z h92 b8 k8 .byte (8 : Int32) [(.int (48 : Int32)), (.int (3 : Int32)), (.int (0 : Int32)), (.int (0 : Int32)), (.int (0 : Int32)), (.int (0 : Int32)), (.int (0 : Int32)), (.int (0 : Int32))] (.int (0 : Int32)) := Arv.set Ar92 q92 S92 M92 H92 G92 (own_fb nn92) W92 1 rfl (Nat.le_of_ble_eq_true rfl)
        have K92 : Keep h0 h92 [] := K10.wr W92 (Or.inr sz_b8)
        have N92 := Fr.snoc X92 N10 g_b8
        have pre93 : ∀ t, Steps p.tables e below (T92.setTop (mkF m 183 #[iv p0, iv p1, iv p2, iv p3, iv p4, iv mm, iv tA, iv tB, iv tT, iv c0, iv c1, iv c2, iv c3, rv b8, .unset, .unset, .unset] [(.int tA), (.int (2 : Int32)), (.ref b8)])) t → Steps p.tables e below (s₁.setTop (entryFrame m #[(.int p0), (.int p1), (.int p2), (.int p3), (.int p4)] maxLocals)) t := by
          intro t kt
          refine pre91 _ ?_
          show Steps p.tables e below (T10.setTop (mkF m 177 #[iv p0, iv p1, iv p2, iv p3, iv p4, iv mm, iv tA, iv tB, iv tT, iv c0, iv c1, iv c2, iv c3, rv b8, .unset, .unset, .unset] [(.int (3 : Int32)), (.int (1 : Int32)), (.ref b8)])) _
          refine st92 _ ?_
          show Steps p.tables e below (T92.setTop (mkF m 178 #[iv p0, iv p1, iv p2, iv p3, iv p4, iv mm, iv tA, iv tB, iv tT, iv c0, iv c1, iv c2, iv c3, rv b8, .unset, .unset, .unset] [])) _
          refine XS.aload X92.here hx rfl (hb hby at_178) rfl rfl ?_
          refine XS.iconst X92.here hx rfl (hb hby at_180) ?_
          refine XS.iload X92.here hx rfl (hb hby at_181) rfl ?_
          exact kt
        obtain ⟨cl94, Ar94, q94, S94, M94, H94, G94⟩ := id V92
        have hin94 : ¬ ((2 : Int32) < 0 ∨ cl94.slots.size ≤ ((2 : Int32)).toNatClampNeg) := inb_of S94 ⟨by decide, by decide⟩
        obtain ⟨T94, h94, X94, e94, W94, st94⟩ := stB X92 hx hZ e92 Ar94 (j := (2 : Int32)) hin94 (g := (mkF m 183 #[iv p0, iv p1, iv p2, iv p3, iv p4, iv mm, iv tA, iv tB, iv tT, iv c0, iv c1, iv c2, iv c3, rv b8, .unset, .unset, .unset] [(.int tA), (.int (2 : Int32)), (.ref b8)])) rfl rfl (hb hby at_183)
        have nn94 : nar .byte tA = tA := (by rw [h_tA]; exact own_nb _)
        rw [nn94] at W94
        have V94 : Arv Z h94 b8 k8 .byte (8 : Int32) [(.int (48 : Int32)), (.int (3 : Int32)), (.int tA), (.int (0 : Int32)), (.int (0 : Int32)), (.int (0 : Int32)), (.int (0 : Int32)), (.int (0 : Int32))] (.int (0 : Int32)) := Arv.set Ar94 q94 S94 M94 H94 G94 (own_fb nn94) W94 2 rfl (Nat.le_of_ble_eq_true rfl)
        have K94 : Keep h0 h94 [] := K92.wr W94 (Or.inr sz_b8)
        have N94 := Fr.snoc X94 N92 g_b8
        have pre95 : ∀ t, Steps p.tables e below (T94.setTop (mkF m 188 #[iv p0, iv p1, iv p2, iv p3, iv p4, iv mm, iv tA, iv tB, iv tT, iv c0, iv c1, iv c2, iv c3, rv b8, .unset, .unset, .unset] [(.int (1 : Int32)), (.int (3 : Int32)), (.ref b8)])) t → Steps p.tables e below (s₁.setTop (entryFrame m #[(.int p0), (.int p1), (.int p2), (.int p3), (.int p4)] maxLocals)) t := by
          intro t kt
          refine pre93 _ ?_
          show Steps p.tables e below (T92.setTop (mkF m 183 #[iv p0, iv p1, iv p2, iv p3, iv p4, iv mm, iv tA, iv tB, iv tT, iv c0, iv c1, iv c2, iv c3, rv b8, .unset, .unset, .unset] [(.int tA), (.int (2 : Int32)), (.ref b8)])) _
          refine st94 _ ?_
          show Steps p.tables e below (T94.setTop (mkF m 184 #[iv p0, iv p1, iv p2, iv p3, iv p4, iv mm, iv tA, iv tB, iv tT, iv c0, iv c1, iv c2, iv c3, rv b8, .unset, .unset, .unset] [])) _
          refine XS.aload X94.here hx rfl (hb hby at_184) rfl rfl ?_
          refine XS.iconst X94.here hx rfl (hb hby at_186) ?_
          refine XS.iconst X94.here hx rfl (hb hby at_187) ?_
          exact kt
        obtain ⟨cl96, Ar96, q96, S96, M96, H96, G96⟩ := id V94
        have hin96 : ¬ ((3 : Int32) < 0 ∨ cl96.slots.size ≤ ((3 : Int32)).toNatClampNeg) := inb_of S96 ⟨by decide, by decide⟩
        obtain ⟨T96, h96, X96, e96, W96, st96⟩ := stB X94 hx hZ e94 Ar96 (j := (3 : Int32)) hin96 (g := (mkF m 188 #[iv p0, iv p1, iv p2, iv p3, iv p4, iv mm, iv tA, iv tB, iv tT, iv c0, iv c1, iv c2, iv c3, rv b8, .unset, .unset, .unset] [(.int (1 : Int32)), (.int (3 : Int32)), (.ref b8)])) rfl rfl (hb hby at_188)
        have nn96 : nar .byte (1 : Int32) = (1 : Int32) := (by decide)
        rw [nn96] at W96
        have V96 : Arv Z h96 b8 k8 .byte (8 : Int32) [(.int (48 : Int32)), (.int (3 : Int32)), (.int tA), (.int (1 : Int32)), (.int (0 : Int32)), (.int (0 : Int32)), (.int (0 : Int32)), (.int (0 : Int32))] (.int (0 : Int32)) := Arv.set Ar96 q96 S96 M96 H96 G96 (own_fb nn96) W96 3 rfl (Nat.le_of_ble_eq_true rfl)
        have K96 : Keep h0 h96 [] := K94.wr W96 (Or.inr sz_b8)
        have N96 := Fr.snoc X96 N94 g_b8
        have pre97 : ∀ t, Steps p.tables e below (T96.setTop (mkF m 194 #[iv p0, iv p1, iv p2, iv p3, iv p4, iv mm, iv tA, iv tB, iv tT, iv c0, iv c1, iv c2, iv c3, rv b8, .unset, .unset, .unset] [(.int c0), (.int (4 : Int32)), (.ref b8)])) t → Steps p.tables e below (s₁.setTop (entryFrame m #[(.int p0), (.int p1), (.int p2), (.int p3), (.int p4)] maxLocals)) t := by
          intro t kt
          refine pre95 _ ?_
          show Steps p.tables e below (T94.setTop (mkF m 188 #[iv p0, iv p1, iv p2, iv p3, iv p4, iv mm, iv tA, iv tB, iv tT, iv c0, iv c1, iv c2, iv c3, rv b8, .unset, .unset, .unset] [(.int (1 : Int32)), (.int (3 : Int32)), (.ref b8)])) _
          refine st96 _ ?_
          show Steps p.tables e below (T96.setTop (mkF m 189 #[iv p0, iv p1, iv p2, iv p3, iv p4, iv mm, iv tA, iv tB, iv tT, iv c0, iv c1, iv c2, iv c3, rv b8, .unset, .unset, .unset] [])) _
          refine XS.aload X96.here hx rfl (hb hby at_189) rfl rfl ?_
          refine XS.iconst X96.here hx rfl (hb hby at_191) ?_
          refine XS.iload X96.here hx rfl (hb hby at_192) rfl ?_
          exact kt
        obtain ⟨cl98, Ar98, q98, S98, M98, H98, G98⟩ := id V96
        have hin98 : ¬ ((4 : Int32) < 0 ∨ cl98.slots.size ≤ ((4 : Int32)).toNatClampNeg) := inb_of S98 ⟨by decide, by decide⟩
        obtain ⟨T98, h98, X98, e98, W98, st98⟩ := stB X96 hx hZ e96 Ar98 (j := (4 : Int32)) hin98 (g := (mkF m 194 #[iv p0, iv p1, iv p2, iv p3, iv p4, iv mm, iv tA, iv tB, iv tT, iv c0, iv c1, iv c2, iv c3, rv b8, .unset, .unset, .unset] [(.int c0), (.int (4 : Int32)), (.ref b8)])) rfl rfl (hb hby at_194)
        have nn98 : nar .byte c0 = c0 := (by rw [h_c0]; exact own_nb _)
        rw [nn98] at W98
        have V98 : Arv Z h98 b8 k8 .byte (8 : Int32) [(.int (48 : Int32)), (.int (3 : Int32)), (.int tA), (.int (1 : Int32)), (.int c0), (.int (0 : Int32)), (.int (0 : Int32)), (.int (0 : Int32))] (.int (0 : Int32)) := Arv.set Ar98 q98 S98 M98 H98 G98 (own_fb nn98) W98 4 rfl (Nat.le_of_ble_eq_true rfl)
        have K98 : Keep h0 h98 [] := K96.wr W98 (Or.inr sz_b8)
        have N98 := Fr.snoc X98 N96 g_b8
        have pre99 : ∀ t, Steps p.tables e below (T98.setTop (mkF m 200 #[iv p0, iv p1, iv p2, iv p3, iv p4, iv mm, iv tA, iv tB, iv tT, iv c0, iv c1, iv c2, iv c3, rv b8, .unset, .unset, .unset] [(.int tT), (.int (5 : Int32)), (.ref b8)])) t → Steps p.tables e below (s₁.setTop (entryFrame m #[(.int p0), (.int p1), (.int p2), (.int p3), (.int p4)] maxLocals)) t := by
          intro t kt
          refine pre97 _ ?_
          show Steps p.tables e below (T96.setTop (mkF m 194 #[iv p0, iv p1, iv p2, iv p3, iv p4, iv mm, iv tA, iv tB, iv tT, iv c0, iv c1, iv c2, iv c3, rv b8, .unset, .unset, .unset] [(.int c0), (.int (4 : Int32)), (.ref b8)])) _
          refine st98 _ ?_
          show Steps p.tables e below (T98.setTop (mkF m 195 #[iv p0, iv p1, iv p2, iv p3, iv p4, iv mm, iv tA, iv tB, iv tT, iv c0, iv c1, iv c2, iv c3, rv b8, .unset, .unset, .unset] [])) _
          refine XS.aload X98.here hx rfl (hb hby at_195) rfl rfl ?_
          refine XS.iconst X98.here hx rfl (hb hby at_197) ?_
          refine XS.iload X98.here hx rfl (hb hby at_198) rfl ?_
          exact kt
        obtain ⟨cl100, Ar100, q100, S100, M100, H100, G100⟩ := id V98
        have hin100 : ¬ ((5 : Int32) < 0 ∨ cl100.slots.size ≤ ((5 : Int32)).toNatClampNeg) := inb_of S100 ⟨by decide, by decide⟩
        obtain ⟨T100, h100, X100, e100, W100, st100⟩ := stB X98 hx hZ e98 Ar100 (j := (5 : Int32)) hin100 (g := (mkF m 200 #[iv p0, iv p1, iv p2, iv p3, iv p4, iv mm, iv tA, iv tB, iv tT, iv c0, iv c1, iv c2, iv c3, rv b8, .unset, .unset, .unset] [(.int tT), (.int (5 : Int32)), (.ref b8)])) rfl rfl (hb hby at_200)
        have nn100 : nar .byte tT = tT := (by rw [h_tT]; exact own_nb _)
        rw [nn100] at W100
        have V100 : Arv Z h100 b8 k8 .byte (8 : Int32) [(.int (48 : Int32)), (.int (3 : Int32)), (.int tA), (.int (1 : Int32)), (.int c0), (.int tT), (.int (0 : Int32)), (.int (0 : Int32))] (.int (0 : Int32)) := Arv.set Ar100 q100 S100 M100 H100 G100 (own_fb nn100) W100 5 rfl (Nat.le_of_ble_eq_true rfl)
        have K100 : Keep h0 h100 [] := K98.wr W100 (Or.inr sz_b8)
        have N100 := Fr.snoc X100 N98 g_b8
        have pre101 : ∀ t, Steps p.tables e below (T100.setTop (mkF m 206 #[iv p0, iv p1, iv p2, iv p3, iv p4, iv mm, iv tA, iv tB, iv tT, iv c0, iv c1, iv c2, iv c3, rv b8, .unset, .unset, .unset] [(.int (1 : Int32)), (.int (6 : Int32)), (.ref b8)])) t → Steps p.tables e below (s₁.setTop (entryFrame m #[(.int p0), (.int p1), (.int p2), (.int p3), (.int p4)] maxLocals)) t := by
          intro t kt
          refine pre99 _ ?_
          show Steps p.tables e below (T98.setTop (mkF m 200 #[iv p0, iv p1, iv p2, iv p3, iv p4, iv mm, iv tA, iv tB, iv tT, iv c0, iv c1, iv c2, iv c3, rv b8, .unset, .unset, .unset] [(.int tT), (.int (5 : Int32)), (.ref b8)])) _
          refine st100 _ ?_
          show Steps p.tables e below (T100.setTop (mkF m 201 #[iv p0, iv p1, iv p2, iv p3, iv p4, iv mm, iv tA, iv tB, iv tT, iv c0, iv c1, iv c2, iv c3, rv b8, .unset, .unset, .unset] [])) _
          refine XS.aload X100.here hx rfl (hb hby at_201) rfl rfl ?_
          refine XS.bipush X100.here hx rfl (hb hby at_203) ?_
          refine XS.iconst X100.here hx rfl (hb hby at_205) ?_
          exact kt
        obtain ⟨cl102, Ar102, q102, S102, M102, H102, G102⟩ := id V100
        have hin102 : ¬ ((6 : Int32) < 0 ∨ cl102.slots.size ≤ ((6 : Int32)).toNatClampNeg) := inb_of S102 ⟨by decide, by decide⟩
        obtain ⟨T102, h102, X102, e102, W102, st102⟩ := stB X100 hx hZ e100 Ar102 (j := (6 : Int32)) hin102 (g := (mkF m 206 #[iv p0, iv p1, iv p2, iv p3, iv p4, iv mm, iv tA, iv tB, iv tT, iv c0, iv c1, iv c2, iv c3, rv b8, .unset, .unset, .unset] [(.int (1 : Int32)), (.int (6 : Int32)), (.ref b8)])) rfl rfl (hb hby at_206)
        have nn102 : nar .byte (1 : Int32) = (1 : Int32) := (by decide)
        rw [nn102] at W102
        have V102 : Arv Z h102 b8 k8 .byte (8 : Int32) [(.int (48 : Int32)), (.int (3 : Int32)), (.int tA), (.int (1 : Int32)), (.int c0), (.int tT), (.int (1 : Int32)), (.int (0 : Int32))] (.int (0 : Int32)) := Arv.set Ar102 q102 S102 M102 H102 G102 (own_fb nn102) W102 6 rfl (Nat.le_of_ble_eq_true rfl)
        have K102 : Keep h0 h102 [] := K100.wr W102 (Or.inr sz_b8)
        have N102 := Fr.snoc X102 N100 g_b8
        have pre103 : ∀ t, Steps p.tables e below (T102.setTop (mkF m 213 #[iv p0, iv p1, iv p2, iv p3, iv p4, iv mm, iv tA, iv tB, iv tT, iv c0, iv c1, iv c2, iv c3, rv b8, .unset, .unset, .unset] [(.int c1), (.int (7 : Int32)), (.ref b8)])) t → Steps p.tables e below (s₁.setTop (entryFrame m #[(.int p0), (.int p1), (.int p2), (.int p3), (.int p4)] maxLocals)) t := by
          intro t kt
          refine pre101 _ ?_
          show Steps p.tables e below (T100.setTop (mkF m 206 #[iv p0, iv p1, iv p2, iv p3, iv p4, iv mm, iv tA, iv tB, iv tT, iv c0, iv c1, iv c2, iv c3, rv b8, .unset, .unset, .unset] [(.int (1 : Int32)), (.int (6 : Int32)), (.ref b8)])) _
          refine st102 _ ?_
          show Steps p.tables e below (T102.setTop (mkF m 207 #[iv p0, iv p1, iv p2, iv p3, iv p4, iv mm, iv tA, iv tB, iv tT, iv c0, iv c1, iv c2, iv c3, rv b8, .unset, .unset, .unset] [])) _
          refine XS.aload X102.here hx rfl (hb hby at_207) rfl rfl ?_
          refine XS.bipush X102.here hx rfl (hb hby at_209) ?_
          refine XS.iload X102.here hx rfl (hb hby at_211) rfl ?_
          exact kt
        obtain ⟨cl104, Ar104, q104, S104, M104, H104, G104⟩ := id V102
        have hin104 : ¬ ((7 : Int32) < 0 ∨ cl104.slots.size ≤ ((7 : Int32)).toNatClampNeg) := inb_of S104 ⟨by decide, by decide⟩
        obtain ⟨T104, h104, X104, e104, W104, st104⟩ := stB X102 hx hZ e102 Ar104 (j := (7 : Int32)) hin104 (g := (mkF m 213 #[iv p0, iv p1, iv p2, iv p3, iv p4, iv mm, iv tA, iv tB, iv tT, iv c0, iv c1, iv c2, iv c3, rv b8, .unset, .unset, .unset] [(.int c1), (.int (7 : Int32)), (.ref b8)])) rfl rfl (hb hby at_213)
        have nn104 : nar .byte c1 = c1 := (by rw [h_c1]; exact own_nb _)
        rw [nn104] at W104
        have V104 : Arv Z h104 b8 k8 .byte (8 : Int32) [(.int (48 : Int32)), (.int (3 : Int32)), (.int tA), (.int (1 : Int32)), (.int c0), (.int tT), (.int (1 : Int32)), (.int c1)] (.int (0 : Int32)) := Arv.set Ar104 q104 S104 M104 H104 G104 (own_fb nn104) W104 7 rfl (Nat.le_of_ble_eq_true rfl)
        have K104 : Keep h0 h104 [] := K102.wr W104 (Or.inr sz_b8)
        have N104 := Fr.snoc X104 N102 g_b8
        have pre105 : ∀ t, Steps p.tables e below (T104.setTop (mkF m 257 #[iv p0, iv p1, iv p2, iv p3, iv p4, iv mm, iv tA, iv tB, iv tT, iv c0, iv c1, iv c2, iv c3, rv b8, .unset, .unset, .unset] [])) t → Steps p.tables e below (s₁.setTop (entryFrame m #[(.int p0), (.int p1), (.int p2), (.int p3), (.int p4)] maxLocals)) t := by
          intro t kt
          refine pre103 _ ?_
          show Steps p.tables e below (T102.setTop (mkF m 213 #[iv p0, iv p1, iv p2, iv p3, iv p4, iv mm, iv tA, iv tB, iv tT, iv c0, iv c1, iv c2, iv c3, rv b8, .unset, .unset, .unset] [(.int c1), (.int (7 : Int32)), (.ref b8)])) _
          refine st104 _ ?_
          show Steps p.tables e below (T104.setTop (mkF m 214 #[iv p0, iv p1, iv p2, iv p3, iv p4, iv mm, iv tA, iv tB, iv tT, iv c0, iv c1, iv c2, iv c3, rv b8, .unset, .unset, .unset] [])) _
          refine XS.goto X104.here hx rfl (pc0 := 214) (pc' := 257) rfl (hb hby at_214) (by decide) (by decide) ?_
          exact kt
        obtain ⟨T106, h106, X106, e106, E106, A106, D106, -, st106⟩ := newO X104 hx hZ hown (hw _ (List.mem_of_getElem? (i := 5) rfl)) (hw _ (List.mem_of_getElem? (i := 6) rfl)) (hw _ (List.mem_of_getElem? (i := 7) rfl)) e104 (g := (mkF m 257 #[iv p0, iv p1, iv p2, iv p3, iv p4, iv mm, iv tA, iv tB, iv tT, iv c0, iv c1, iv c2, iv c3, rv b8, .unset, .unset, .unset] [])) rfl (hb hby at_257) (by decide) (by decide)
        obtain ⟨b106, g106⟩ : ∃ z, z = h104.size := ⟨_, rfl⟩
        rw [← g106] at A106 D106 st106
        have g_b106 : n0 ≤ b106 := Nat.le_trans (Nat.le_trans Z0 K104.1) (Nat.le_of_eq g106.symm)
        have sz_b106 : h0.size ≤ b106 := Nat.le_trans K104.1 (Nat.le_of_eq g106.symm)
        have F_bytes_b106 : Fld Z h106 b106 "com/example/fair_witness/fairwitness/attestation/DerReader" "bytes" "[B" .null := D106 (Or.inr (hw _ (List.mem_of_getElem? (i := 18) rfl))) (ty := (.array .byte)) (by decide)
        have F_position_b106 : Fld Z h106 b106 "com/example/fair_witness/fairwitness/attestation/DerReader" "position" "I" (.int (0 : Int32)) := D106 (Or.inl (hw _ (List.mem_of_getElem? (i := 20) rfl))) (ty := .int) (by decide)
        have F_end_b106 : Fld Z h106 b106 "com/example/fair_witness/fairwitness/attestation/DerReader" "end" "I" (.int (0 : Int32)) := D106 (Or.inr (hw _ (List.mem_of_getElem? (i := 22) rfl))) (ty := .int) (by decide)
        have K106 : Keep h0 h106 [] := K104.ext E106
        have pre107 : ∀ t, Steps p.tables e below (T106.setTop (mkF m 263 #[iv p0, iv p1, iv p2, iv p3, iv p4, iv mm, iv tA, iv tB, iv tT, iv c0, iv c1, iv c2, iv c3, rv b8, .unset, .unset, .unset] [(.ref b8), (.ref b106), (.ref b106)])) t → Steps p.tables e below (s₁.setTop (entryFrame m #[(.int p0), (.int p1), (.int p2), (.int p3), (.int p4)] maxLocals)) t := by
          intro t kt
          refine pre105 _ ?_
          show Steps p.tables e below (T104.setTop (mkF m 257 #[iv p0, iv p1, iv p2, iv p3, iv p4, iv mm, iv tA, iv tB, iv tT, iv c0, iv c1, iv c2, iv c3, rv b8, .unset, .unset, .unset] [])) _
          refine st106 _ ?_
          show Steps p.tables e below (T106.setTop (mkF m 260 #[iv p0, iv p1, iv p2, iv p3, iv p4, iv mm, iv tA, iv tB, iv tT, iv c0, iv c1, iv c2, iv c3, rv b8, .unset, .unset, .unset] [(.ref b106)])) _
          refine XS.dup X106.here hx rfl (hb hby at_260) rfl rfl ?_
          refine XS.aload X106.here hx rfl (hb hby at_261) rfl rfl ?_
          exact kt
        have f108 := (((((((((Ex8.wr W10).wr W92).wr W94).wr W96).wr W98).wr W100).wr W102).wr W104).ext E106)
        obtain ⟨_, _, ⟨T109, L109, k109, n109⟩, -, X109, ⟨Lc109, hQ109, l109, y109, z109⟩, st109⟩ := X106.specialBack hx (y := (⟨"com/example/fair_witness/fairwitness/attestation/DerReader", "<init>", "([B)V"⟩ : MethodName)) rfl hown (mvT hZ (hw _ (List.mem_of_getElem? (i := 8) rfl))) (mvT hZ (hw _ (List.mem_of_getElem? (i := 9) rfl))) (mvT hZ (hw _ (List.mem_of_getElem? (i := 10) rfl))) (by decide) (backOf (W := 1) (rm2 l Z a0 hw [] b106 b8 k8 (48 : Int32) (3 : Int32) tA (1 : Int32) c0 tT (1 : Int32) c1 h106 n0 (Nat.le_trans Z0 K106.1) F_bytes_b106 F_position_b106 F_end_b106 A106 g_b106 (V104.ext E106)) hZ (hw _ (List.mem_of_getElem? (i := 10) rfl)) (hw _ (List.mem_of_getElem? (i := 7) rfl)) (by decide) (by decide)) (g := (mkF m 263 #[iv p0, iv p1, iv p2, iv p3, iv p4, iv mm, iv tA, iv tB, iv tT, iv c0, iv c1, iv c2, iv c3, rv b8, .unset, .unset, .unset] [(.ref b8), (.ref b106), (.ref b106)])) rfl (by rw [hml]; rfl) (Steps.refl _) (a := b106) (argsL := [(.ref b8)]) (rest := [(.ref b106)]) (lenOf pd12 rfl) rfl (by show 2 * 0 + _ ≤ _; exact Nat.le_of_eq rfl) (hb hby at_263) (fun _ _ => ⟨rfl, e106, (by decide : 2 + 0 ≤ _), (by decide : 11 + 0 ≤ _)⟩)
        dsimp only [Pt.U, Pt.locs, Pt.cells, Pt.slots] at X109 l109 y109 z109 st109 hQ109
        subst l109 y109 z109
        obtain ⟨rfl, N109q, Kc109, Fb_109, Fp_109, Fe_109⟩ := hQ109
        have N109 := Fr.app N104 N109q
        have K109 : Keep h0 T109.heap [] := K106.trans Kc109 (allS (Or.inr sz_b106) all0)
        have pre110 : ∀ t, Steps p.tables e below (T109.setTop (mkF m 270 #[iv p0, iv p1, iv p2, iv p3, iv p4, iv mm, iv tA, iv tB, iv tT, iv c0, iv c1, iv c2, iv c3, rv b8, rv b106, .unset, .unset] [(.ref b106)])) t → Steps p.tables e below (s₁.setTop (entryFrame m #[(.int p0), (.int p1), (.int p2), (.int p3), (.int p4)] maxLocals)) t := by
          intro t kt
          refine pre107 _ ?_
          show Steps p.tables e below (T106.setTop (mkF m 263 #[iv p0, iv p1, iv p2, iv p3, iv p4, iv mm, iv tA, iv tB, iv tT, iv c0, iv c1, iv c2, iv c3, rv b8, .unset, .unset, .unset] [(.ref b8), (.ref b106), (.ref b106)])) _
          refine st109.trans ?_
          show Steps p.tables e below (T109.setTop (mkF m 266 #[iv p0, iv p1, iv p2, iv p3, iv p4, iv mm, iv tA, iv tB, iv tT, iv c0, iv c1, iv c2, iv c3, rv b8, .unset, .unset, .unset] [(.ref b106)])) _
          refine XS.astore X109.here hx rfl (hb hby at_266) rfl rfl (l' := #[iv p0, iv p1, iv p2, iv p3, iv p4, iv mm, iv tA, iv tB, iv tT, iv c0, iv c1, iv c2, iv c3, rv b8, rv b106, .unset, .unset]) rfl ?_
          refine XS.aload X109.here hx rfl (hb hby at_268) rfl rfl ?_
          exact kt
        have f111 := ((V104.ext E106).keep Kc109 (ninS (Exa.ne (f108.keep Kc109) (A106.keep Kc109) (by decide)) nin0))
        obtain ⟨cq112, kq112, q112a, q112b, q112c⟩ := isOf hZ rfl (A106.keep Kc109)
        obtain ⟨_, _, ⟨T112, L112, k112, n112⟩, -, X112, hSc112, hgr112, ⟨Lc112, hQ112, l112, y112, z112⟩, st112⟩ := X109.virtualBackS hx (y := (⟨"com/example/fair_witness/fairwitness/attestation/DerReader", "readSequence", "()Lcom/example/fair_witness/fairwitness/attestation/DerReader;"⟩ : MethodName)) (z := (⟨"com/example/fair_witness/fairwitness/attestation/DerReader", "readSequence", "()Lcom/example/fair_witness/fairwitness/attestation/DerReader;"⟩ : MethodName)) hown (mvT hZ (hw _ (List.mem_of_getElem? (i := 23) rfl))) (mvT hZ (hw _ (List.mem_of_getElem? (i := 24) rfl))) (notFace_of_selects (args := #[]) (mvT hZ (hw _ (List.mem_of_getElem? (i := 26) rfl)))) (mvT hZ (hw _ (List.mem_of_getElem? (i := 26) rfl))) (mvT hZ (hw _ (List.mem_of_getElem? (i := 25) rfl))) (by decide) (backOfS (W := 0) (rm5 l Z a0 hw [] b106 b8 k8 (48 : Int32) (3 : Int32) tA (1 : Int32) c0 tT (1 : Int32) c1 (3 : Int32) (5 : Int32) T109.heap n0 (Nat.le_trans Z0 K109.1) Fb_109 Fp_109 Fe_109 (A106.keep Kc109) g_b106 f111 (f108.keep Kc109) (by decide) (by decide) (by decide) (by decide) (by decide) (by decide)) hZ (hw _ (List.mem_of_getElem? (i := 27) rfl)) (hw _ (List.mem_of_getElem? (i := 7) rfl)) (by decide) (by decide)) q112a q112c (g := (mkF m 270 #[iv p0, iv p1, iv p2, iv p3, iv p4, iv mm, iv tA, iv tB, iv tT, iv c0, iv c1, iv c2, iv c3, rv b8, rv b106, .unset, .unset] [(.ref b106)])) rfl (by rw [hml]; rfl) (Steps.refl _) (argsL := []) (rest := []) (lenOf pd13 rfl) rfl (by show 2 * 0 + _ ≤ _; exact Nat.le_of_eq rfl) (hb hby at_270) (fun _ _ => ⟨rfl, rfl, (by decide : 2 + 3 ≤ _), (by decide : 11 + 39 ≤ _)⟩)
        dsimp only [Pt.U, Pt.locs, Pt.cells, Pt.slots] at X112 l112 y112 z112 st112 hQ112 hSc112 hgr112
        subst l112 y112 z112
        obtain ⟨x112, rfl, N112q, Kc112, hx112, Fb_112, Fp_112, Fe_112, Ex_112, Fbx_112, Fpx_112, Fex_112⟩ := hQ112
        have N112 := Fr.app N109 N112q
        obtain ⟨X112, hS112, hZ, hown⟩ := rebS (s := s) (vm0 := s.vm) hS0 (Nat.le_trans (Nat.le_trans (Nat.le_trans (Nat.le_trans (Nat.le_trans (Nat.le_trans (Nat.le_trans (Nat.le_trans (Nat.le_trans (Nat.le_trans (Nat.le_trans (Nat.le_refl _) E8.1) (Nat.le_of_eq W10.size.symm)) (Nat.le_of_eq W92.size.symm)) (Nat.le_of_eq W94.size.symm)) (Nat.le_of_eq W96.size.symm)) (Nat.le_of_eq W98.size.symm)) (Nat.le_of_eq W100.size.symm)) (Nat.le_of_eq W102.size.symm)) (Nat.le_of_eq W104.size.symm)) E106.1) Kc109.1) X112 hSc112 hgr112 hZ hown
        have K112 : Keep h0 T112.heap [] := K109.trans Kc112 (allS (Or.inr sz_b106) all0)
        have g_x112 : n0 ≤ x112 := Nat.le_trans (Nat.le_trans Z0 K109.1) hx112
        have sz_x112 : h0.size ≤ x112 := Nat.le_trans K109.1 hx112
        have ne_112 : b106 ≠ x112 := Nat.ne_of_lt (Nat.lt_of_lt_of_le (A106.keep Kc109).lt hx112)
        have pre113 : ∀ t, Steps p.tables e below (T112.setTop (mkF m 277 #[iv p0, iv p1, iv p2, iv p3, iv p4, iv mm, iv tA, iv tB, iv tT, iv c0, iv c1, iv c2, iv c3, rv b8, rv b106, rv x112, .unset] [(.ref b106)])) t → Steps p.tables e below (s₁.setTop (entryFrame m #[(.int p0), (.int p1), (.int p2), (.int p3), (.int p4)] maxLocals)) t := by
          intro t kt
          refine pre110 _ ?_
          show Steps p.tables e below (T109.setTop (mkF m 270 #[iv p0, iv p1, iv p2, iv p3, iv p4, iv mm, iv tA, iv tB, iv tT, iv c0, iv c1, iv c2, iv c3, rv b8, rv b106, .unset, .unset] [(.ref b106)])) _
          refine st112.trans ?_
          show Steps p.tables e below (T112.setTop (mkF m 273 #[iv p0, iv p1, iv p2, iv p3, iv p4, iv mm, iv tA, iv tB, iv tT, iv c0, iv c1, iv c2, iv c3, rv b8, rv b106, .unset, .unset] [(.ref x112)])) _
          refine XS.astore X112.here hx rfl (hb hby at_273) rfl rfl (l' := #[iv p0, iv p1, iv p2, iv p3, iv p4, iv mm, iv tA, iv tB, iv tT, iv c0, iv c1, iv c2, iv c3, rv b8, rv b106, rv x112, .unset]) rfl ?_
          refine XS.aload X112.here hx rfl (hb hby at_275) rfl rfl ?_
          exact kt
        have f114 := ((f108.keep Kc109).keep Kc112)
        have f115 := ((A106.keep Kc109).keep Kc112)
        obtain ⟨cq116, kq116, q116a, q116b, q116c⟩ := isOf hZ rfl f115
        obtain ⟨_, _, ⟨T116, L116, k116, n116⟩, -, X116, ⟨Lc116, hQ116, l116, y116, z116⟩, st116⟩ := X112.virtualBack hx (y := (⟨"com/example/fair_witness/fairwitness/attestation/DerReader", "hasMore", "()Z"⟩ : MethodName)) (z := (⟨"com/example/fair_witness/fairwitness/attestation/DerReader", "hasMore", "()Z"⟩ : MethodName)) hown (mvT hZ (hw _ (List.mem_of_getElem? (i := 52) rfl))) (mvT hZ (hw _ (List.mem_of_getElem? (i := 53) rfl))) (notFace_of_selects (args := #[]) (mvT hZ (hw _ (List.mem_of_getElem? (i := 55) rfl)))) (mvT hZ (hw _ (List.mem_of_getElem? (i := 55) rfl))) (mvT hZ (hw _ (List.mem_of_getElem? (i := 54) rfl))) (by decide) (backOf (W := 0) (rm10i1 l Z a0 hw [] b106 b8 (5 : Int32) (8 : Int32) T112.heap n0 (Nat.le_trans Z0 K112.1) Fb_112 Fp_112 Fe_112 f115 (by decide)) hZ (hw _ (List.mem_of_getElem? (i := 56) rfl)) (hw _ (List.mem_of_getElem? (i := 7) rfl)) (by decide) (by decide)) q116a q116c (g := (mkF m 277 #[iv p0, iv p1, iv p2, iv p3, iv p4, iv mm, iv tA, iv tB, iv tT, iv c0, iv c1, iv c2, iv c3, rv b8, rv b106, rv x112, .unset] [(.ref b106)])) rfl (by rw [hml]; rfl) (Steps.refl _) (argsL := []) (rest := []) (lenOf pd14 rfl) rfl (by show 2 * 0 + _ ≤ _; exact Nat.le_of_eq rfl) (hb hby at_277) (fun _ _ => ⟨rfl, rfl, (by decide : 5 + 0 ≤ _), (by decide : 50 + 0 ≤ _)⟩)
        dsimp only [Pt.U, Pt.locs, Pt.cells, Pt.slots] at X116 l116 y116 z116 st116 hQ116
        subst l116 y116 z116
        obtain ⟨rfl, N116q, hh116⟩ := hQ116
        have N116 := Fr.app N112 N116q
        have pre117 : ∀ t, Steps p.tables e below (T116.setTop (mkF m 289 #[iv p0, iv p1, iv p2, iv p3, iv p4, iv mm, iv tA, iv tB, iv tT, iv c0, iv c1, iv c2, iv c3, rv b8, rv b106, rv x112, iv (1 : Int32)] [(.ref x112)])) t → Steps p.tables e below (s₁.setTop (entryFrame m #[(.int p0), (.int p1), (.int p2), (.int p3), (.int p4)] maxLocals)) t := by
          intro t kt
          refine pre113 _ ?_
          show Steps p.tables e below (T112.setTop (mkF m 277 #[iv p0, iv p1, iv p2, iv p3, iv p4, iv mm, iv tA, iv tB, iv tT, iv c0, iv c1, iv c2, iv c3, rv b8, rv b106, rv x112, .unset] [(.ref b106)])) _
          refine st116.trans ?_
          show Steps p.tables e below (T116.setTop (mkF m 280 #[iv p0, iv p1, iv p2, iv p3, iv p4, iv mm, iv tA, iv tB, iv tT, iv c0, iv c1, iv c2, iv c3, rv b8, rv b106, rv x112, .unset] [(.int (1 : Int32))])) _
          refine XS.istore X116.here hx rfl (hb hby at_280) rfl (l' := #[iv p0, iv p1, iv p2, iv p3, iv p4, iv mm, iv tA, iv tB, iv tT, iv c0, iv c1, iv c2, iv c3, rv b8, rv b106, rv x112, iv (1 : Int32)]) rfl ?_
          refine XS.iload X116.here hx rfl (hb hby at_282) rfl ?_
          refine XS.ifNo X116.here hx rfl (hb hby at_284) rfl ((if0 _ _).trans (feq (by decide)).1) ?_
          refine XS.aload X116.here hx rfl (hb hby at_287) rfl rfl ?_
          exact kt
        obtain ⟨cq118, kq118, q118a, q118b, q118c⟩ := isOf hZ hh116 Ex_112
        obtain ⟨_, _, ⟨T118, L118, k118, n118⟩, -, X118, ⟨Lc118, hQ118, l118, y118, z118⟩, st118⟩ := X116.virtualBack hx (y := (⟨"com/example/fair_witness/fairwitness/attestation/DerReader", "hasMore", "()Z"⟩ : MethodName)) (z := (⟨"com/example/fair_witness/fairwitness/attestation/DerReader", "hasMore", "()Z"⟩ : MethodName)) hown (mvT hZ (hw _ (List.mem_of_getElem? (i := 52) rfl))) (mvT hZ (hw _ (List.mem_of_getElem? (i := 53) rfl))) (notFace_of_selects (args := #[]) (mvT hZ (hw _ (List.mem_of_getElem? (i := 55) rfl)))) (mvT hZ (hw _ (List.mem_of_getElem? (i := 55) rfl))) (mvT hZ (hw _ (List.mem_of_getElem? (i := 54) rfl))) (by decide) (backOf (W := 0) (rm10i1 l Z a0 hw [] x112 b8 (2 : Int32) (5 : Int32) T112.heap n0 (Nat.le_trans Z0 K112.1) Fbx_112 Fpx_112 Fex_112 Ex_112 (by decide)) hZ (hw _ (List.mem_of_getElem? (i := 56) rfl)) (hw _ (List.mem_of_getElem? (i := 7) rfl)) (by decide) (by decide)) q118a q118c (g := (mkF m 289 #[iv p0, iv p1, iv p2, iv p3, iv p4, iv mm, iv tA, iv tB, iv tT, iv c0, iv c1, iv c2, iv c3, rv b8, rv b106, rv x112, iv (1 : Int32)] [(.ref x112)])) rfl (by rw [hml]; rfl) (Steps.refl _) (argsL := []) (rest := []) (lenOf pd14 rfl) rfl (by show 2 * 0 + _ ≤ _; exact Nat.le_of_eq rfl) (hb hby at_289) (fun _ _ => ⟨rfl, hh116, (by decide : 5 + 0 ≤ _), (by decide : 50 + 0 ≤ _)⟩)
        dsimp only [Pt.U, Pt.locs, Pt.cells, Pt.slots] at X118 l118 y118 z118 st118 hQ118
        subst l118 y118 z118
        obtain ⟨rfl, N118q, hh118⟩ := hQ118
        have N118 := Fr.app N116 N118q
        have pre119 : ∀ t, Steps p.tables e below (T118.setTop (mkF m 319 #[iv p0, iv p1, iv p2, iv p3, iv p4, iv mm, iv tA, iv tB, iv tT, iv c0, iv c1, iv c2, iv c3, rv b8, rv b106, rv x112, iv (1 : Int32)] [(.ref x112)])) t → Steps p.tables e below (s₁.setTop (entryFrame m #[(.int p0), (.int p1), (.int p2), (.int p3), (.int p4)] maxLocals)) t := by
          intro t kt
          refine pre117 _ ?_
          show Steps p.tables e below (T116.setTop (mkF m 289 #[iv p0, iv p1, iv p2, iv p3, iv p4, iv mm, iv tA, iv tB, iv tT, iv c0, iv c1, iv c2, iv c3, rv b8, rv b106, rv x112, iv (1 : Int32)] [(.ref x112)])) _
          refine st118.trans ?_
          show Steps p.tables e below (T118.setTop (mkF m 292 #[iv p0, iv p1, iv p2, iv p3, iv p4, iv mm, iv tA, iv tB, iv tT, iv c0, iv c1, iv c2, iv c3, rv b8, rv b106, rv x112, iv (1 : Int32)] [(.int (1 : Int32))])) _
          refine XS.iload X118.here hx rfl (hb hby at_292) rfl ?_
          refine XS.ifNo X118.here hx rfl (hb hby at_294) rfl ((if0 _ _).trans (feq hc69).1) ?_
          refine XS.iconst X118.here hx rfl (hb hby at_297) ?_
          refine XS.goto X118.here hx rfl (pc0 := 298) (pc' := 302) rfl (hb hby at_298) (by decide) (by decide) ?_
          refine XS.icmpNo X118.here hx rfl (hb hby at_302) rfl (teq (by decide)).2 ?_
          refine XS.iconst X118.here hx rfl (hb hby at_305) ?_
          refine XS.goto X118.here hx rfl (pc0 := 306) (pc' := 310) rfl (hb hby at_306) (by decide) (by decide) ?_
          refine XS.istore X118.here hx rfl (hb hby at_310) rfl (l' := #[iv p0, iv p1, iv p2, iv p3, iv p4, iv mm, iv tA, iv tB, iv tT, iv c0, iv c1, iv c2, iv c3, rv b8, rv b106, rv x112, iv (1 : Int32)]) rfl ?_
          refine XS.iload X118.here hx rfl (hb hby at_312) rfl ?_
          refine XS.ifNo X118.here hx rfl (hb hby at_314) rfl ((if0 _ _).trans (feq hc69).1) ?_
          refine XS.aload X118.here hx rfl (hb hby at_317) rfl rfl ?_
          exact kt
        obtain ⟨cq120, kq120, q120a, q120b, q120c⟩ := isOf hZ hh118 Ex_112
        obtain ⟨_, _, ⟨T120, L120, k120, n120⟩, -, X120, hSc120, hgr120, ⟨Lc120, hQ120, l120, y120, z120⟩, st120⟩ := X118.virtualBackS hx (y := (⟨"com/example/fair_witness/fairwitness/attestation/DerReader", "readElement", "()[B"⟩ : MethodName)) (z := (⟨"com/example/fair_witness/fairwitness/attestation/DerReader", "readElement", "()[B"⟩ : MethodName)) hown (mvT hZ (hw _ (List.mem_of_getElem? (i := 57) rfl))) (mvT hZ (hw _ (List.mem_of_getElem? (i := 58) rfl))) (notFace_of_selects (args := #[]) (mvT hZ (hw _ (List.mem_of_getElem? (i := 60) rfl)))) (mvT hZ (hw _ (List.mem_of_getElem? (i := 60) rfl))) (mvT hZ (hw _ (List.mem_of_getElem? (i := 59) rfl))) (by decide) (backOfS (W := 0) (rm11i2_1_5 l Z a0 hw [] x112 b8 k8 (48 : Int32) (3 : Int32) tA (1 : Int32) c0 tT (1 : Int32) c1 T112.heap n0 (Nat.le_trans Z0 K112.1) Fbx_112 Fpx_112 Fex_112 Ex_112 g_x112 (f111.keep Kc112 (ninS (Exa.ne f114 f115 (by decide)) nin0)) f114 (by rw [h_tA]; exact own_tagok _) (by decide)) hZ (hw _ (List.mem_of_getElem? (i := 61) rfl)) (hw _ (List.mem_of_getElem? (i := 7) rfl)) (by decide) (by decide)) q120a q120c (g := (mkF m 319 #[iv p0, iv p1, iv p2, iv p3, iv p4, iv mm, iv tA, iv tB, iv tT, iv c0, iv c1, iv c2, iv c3, rv b8, rv b106, rv x112, iv (1 : Int32)] [(.ref x112)])) rfl (by rw [hml]; rfl) (Steps.refl _) (argsL := []) (rest := []) (lenOf pd15 rfl) rfl (by show 2 * 0 + _ ≤ _; exact Nat.le_of_eq rfl) (hb hby at_319) (fun _ _ => ⟨rfl, hh118, (by decide : 5 + 3 ≤ _), (by decide : 50 + 35 ≤ _)⟩)
        dsimp only [Pt.U, Pt.locs, Pt.cells, Pt.slots] at X120 l120 y120 z120 st120 hQ120 hSc120 hgr120
        subst l120 y120 z120
        obtain ⟨y120, rfl, N120q, Kc120, Fb_120, Fp_120, Fe_120⟩ := hQ120
        have N120 := Fr.app N118 N120q
        obtain ⟨X120, hS120, hZ, hown⟩ := rebS (s := s) (vm0 := T112.vm) hS112 (by rw [hh118]; exact (Nat.le_refl _)) X120 hSc120 hgr120 hZ hown
        have K120 : Keep h0 T120.heap [] := K112.trans Kc120 (allS (Or.inr sz_x112) all0)
        have pre121 : ∀ t, Steps p.tables e below (T120.setTop (mkF m 330 #[iv p0, iv p1, iv p2, iv p3, iv p4, iv mm, iv tA, iv tB, iv tT, iv c0, iv c1, iv c2, iv c3, rv b8, rv b106, rv x112, iv (1 : Int32)] [(.ref x112)])) t → Steps p.tables e below (s₁.setTop (entryFrame m #[(.int p0), (.int p1), (.int p2), (.int p3), (.int p4)] maxLocals)) t := by
          intro t kt
          refine pre119 _ ?_
          show Steps p.tables e below (T118.setTop (mkF m 319 #[iv p0, iv p1, iv p2, iv p3, iv p4, iv mm, iv tA, iv tB, iv tT, iv c0, iv c1, iv c2, iv c3, rv b8, rv b106, rv x112, iv (1 : Int32)] [(.ref x112)])) _
          refine st120.trans ?_
          show Steps p.tables e below (T120.setTop (mkF m 322 #[iv p0, iv p1, iv p2, iv p3, iv p4, iv mm, iv tA, iv tB, iv tT, iv c0, iv c1, iv c2, iv c3, rv b8, rv b106, rv x112, iv (1 : Int32)] [(.ref y120)])) _
          refine XS.pop X120.here hx rfl (hb hby at_322) rfl rfl ?_
          refine XS.iload X120.here hx rfl (hb hby at_323) rfl ?_
          refine XS.ifNo X120.here hx rfl (hb hby at_325) rfl ((if0 _ _).trans (feq (by decide)).1) ?_
          refine XS.aload X120.here hx rfl (hb hby at_328) rfl rfl ?_
          exact kt
        have f122 := ((f111.keep Kc112 (ninS (Exa.ne (f114.keep Kc120) (f115.keep Kc120) (by decide)) nin0)).keep Kc120 (ninS (Exa.ne (f114.keep Kc120) (Ex_112.keep Kc120) (by decide)) nin0))
        obtain ⟨cq123, kq123, q123a, q123b, q123c⟩ := isOf hZ rfl (Ex_112.keep Kc120)
        obtain ⟨_, _, ⟨T123, L123, k123, n123⟩, -, X123, ⟨Lc123, hQ123, l123, y123, z123⟩, st123⟩ := X120.virtualBack hx (y := (⟨"com/example/fair_witness/fairwitness/attestation/DerReader", "hasMore", "()Z"⟩ : MethodName)) (z := (⟨"com/example/fair_witness/fairwitness/attestation/DerReader", "hasMore", "()Z"⟩ : MethodName)) hown (mvT hZ (hw _ (List.mem_of_getElem? (i := 52) rfl))) (mvT hZ (hw _ (List.mem_of_getElem? (i := 53) rfl))) (notFace_of_selects (args := #[]) (mvT hZ (hw _ (List.mem_of_getElem? (i := 55) rfl)))) (mvT hZ (hw _ (List.mem_of_getElem? (i := 55) rfl))) (mvT hZ (hw _ (List.mem_of_getElem? (i := 54) rfl))) (by decide) (backOf (W := 0) (rm10i0 l Z a0 hw [] x112 b8 (5 : Int32) (5 : Int32) T120.heap n0 (Nat.le_trans Z0 K120.1) Fb_120 Fp_120 Fe_120 (Ex_112.keep Kc120) (by decide)) hZ (hw _ (List.mem_of_getElem? (i := 56) rfl)) (hw _ (List.mem_of_getElem? (i := 7) rfl)) (by decide) (by decide)) q123a q123c (g := (mkF m 330 #[iv p0, iv p1, iv p2, iv p3, iv p4, iv mm, iv tA, iv tB, iv tT, iv c0, iv c1, iv c2, iv c3, rv b8, rv b106, rv x112, iv (1 : Int32)] [(.ref x112)])) rfl (by rw [hml]; rfl) (Steps.refl _) (argsL := []) (rest := []) (lenOf pd14 rfl) rfl (by show 2 * 0 + _ ≤ _; exact Nat.le_of_eq rfl) (hb hby at_330) (fun _ _ => ⟨rfl, rfl, (by decide : 8 + 0 ≤ _), (by decide : 85 + 0 ≤ _)⟩)
        dsimp only [Pt.U, Pt.locs, Pt.cells, Pt.slots] at X123 l123 y123 z123 st123 hQ123
        subst l123 y123 z123
        obtain ⟨rfl, N123q, hh123⟩ := hQ123
        have N123 := Fr.app N120 N123q
        have pre125 : ∀ t, Steps p.tables e below (T123.setTop (mkF m 336 #[iv p0, iv p1, iv p2, iv p3, iv p4, iv mm, iv tA, iv tB, iv tT, iv c0, iv c1, iv c2, iv c3, rv b8, rv b106, rv x112, iv (1 : Int32)] [(.int (3 : Int32)), (.int mm), (.int (0 : Int32))])) t → Steps p.tables e below (s₁.setTop (entryFrame m #[(.int p0), (.int p1), (.int p2), (.int p3), (.int p4)] maxLocals)) t := by
          intro t kt
          refine pre121 _ ?_
          show Steps p.tables e below (T120.setTop (mkF m 330 #[iv p0, iv p1, iv p2, iv p3, iv p4, iv mm, iv tA, iv tB, iv tT, iv c0, iv c1, iv c2, iv c3, rv b8, rv b106, rv x112, iv (1 : Int32)] [(.ref x112)])) _
          refine st123.trans ?_
          show Steps p.tables e below (T123.setTop (mkF m 333 #[iv p0, iv p1, iv p2, iv p3, iv p4, iv mm, iv tA, iv tB, iv tT, iv c0, iv c1, iv c2, iv c3, rv b8, rv b106, rv x112, iv (1 : Int32)] [(.int (0 : Int32))])) _
          refine XS.iload X123.here hx rfl (hb hby at_333) rfl ?_
          refine XS.iconst X123.here hx rfl (hb hby at_335) ?_
          exact kt
        have hc336_124 : ¬ (mm = (3 : Int32)) := by rw [hc170]; decide
        have pre126 : ∀ t, Steps p.tables e below (T123.setTop (mkF m 388 #[iv p0, iv p1, iv p2, iv p3, iv p4, iv mm, iv tA, iv tB, iv tT, iv c0, iv c1, iv c2, iv c3, rv b8, rv b106, rv x112, iv (1 : Int32)] [(.ref b106)])) t → Steps p.tables e below (s₁.setTop (entryFrame m #[(.int p0), (.int p1), (.int p2), (.int p3), (.int p4)] maxLocals)) t := by
          intro t kt
          refine pre125 _ ?_
          show Steps p.tables e below (T123.setTop (mkF m 336 #[iv p0, iv p1, iv p2, iv p3, iv p4, iv mm, iv tA, iv tB, iv tT, iv c0, iv c1, iv c2, iv c3, rv b8, rv b106, rv x112, iv (1 : Int32)] [(.int (3 : Int32)), (.int mm), (.int (0 : Int32))])) _
          refine XS.icmpYes X123.here hx rfl (pc0 := 336) (pc' := 343) rfl (hb hby at_336) rfl (feq hc336_124).2 (by decide) (by decide) ?_
          refine XS.iconst X123.here hx rfl (hb hby at_343) ?_
          refine XS.icmpNo X123.here hx rfl (hb hby at_344) rfl (teq (by decide)).2 ?_
          refine XS.iconst X123.here hx rfl (hb hby at_347) ?_
          refine XS.goto X123.here hx rfl (pc0 := 348) (pc' := 352) rfl (hb hby at_348) (by decide) (by decide) ?_
          refine XS.istore X123.here hx rfl (hb hby at_352) rfl (l' := #[iv p0, iv p1, iv p2, iv p3, iv p4, iv mm, iv tA, iv tB, iv tT, iv c0, iv c1, iv c2, iv c3, rv b8, rv b106, rv x112, iv (1 : Int32)]) rfl ?_
          refine XS.iload X123.here hx rfl (hb hby at_354) rfl ?_
          refine XS.iconst X123.here hx rfl (hb hby at_356) ?_
          refine XS.icmpYes X123.here hx rfl (pc0 := 357) (pc' := 386) rfl (hb hby at_357) rfl (feq hc336_124).2 (by decide) (by decide) ?_
          refine XS.aload X123.here hx rfl (hb hby at_386) rfl rfl ?_
          exact kt
        obtain ⟨cq127, kq127, q127a, q127b, q127c⟩ := isOf hZ hh123 (f115.keep Kc120)
        obtain ⟨_, _, ⟨T127, L127, k127, n127⟩, -, X127, hSc127, hgr127, ⟨Lc127, hQ127, l127, y127, z127⟩, st127⟩ := X123.virtualBackS hx (y := (⟨"com/example/fair_witness/fairwitness/attestation/DerReader", "readElement", "()[B"⟩ : MethodName)) (z := (⟨"com/example/fair_witness/fairwitness/attestation/DerReader", "readElement", "()[B"⟩ : MethodName)) hown (mvT hZ (hw _ (List.mem_of_getElem? (i := 57) rfl))) (mvT hZ (hw _ (List.mem_of_getElem? (i := 58) rfl))) (notFace_of_selects (args := #[]) (mvT hZ (hw _ (List.mem_of_getElem? (i := 60) rfl)))) (mvT hZ (hw _ (List.mem_of_getElem? (i := 60) rfl))) (mvT hZ (hw _ (List.mem_of_getElem? (i := 59) rfl))) (by decide) (backOfS (W := 0) (rm11i5_1_8 l Z a0 hw [] b106 b8 k8 (48 : Int32) (3 : Int32) tA (1 : Int32) c0 tT (1 : Int32) c1 T120.heap n0 (Nat.le_trans Z0 K120.1) (Fb_112.keep Kc120 (ninS ne_112 nin0)) (Fp_112.keep Kc120 (ninS ne_112 nin0)) (Fe_112.keep Kc120 (ninS ne_112 nin0)) (f115.keep Kc120) g_b106 f122 (f114.keep Kc120) (by rw [h_tT]; exact own_tagok _) (by decide)) hZ (hw _ (List.mem_of_getElem? (i := 61) rfl)) (hw _ (List.mem_of_getElem? (i := 7) rfl)) (by decide) (by decide)) q127a q127c (g := (mkF m 388 #[iv p0, iv p1, iv p2, iv p3, iv p4, iv mm, iv tA, iv tB, iv tT, iv c0, iv c1, iv c2, iv c3, rv b8, rv b106, rv x112, iv (1 : Int32)] [(.ref b106)])) rfl (by rw [hml]; rfl) (Steps.refl _) (argsL := []) (rest := []) (lenOf pd15 rfl) rfl (by show 2 * 0 + _ ≤ _; exact Nat.le_of_eq rfl) (hb hby at_388) (fun _ _ => ⟨rfl, hh123, (by decide : 8 + 3 ≤ _), (by decide : 85 + 35 ≤ _)⟩)
        dsimp only [Pt.U, Pt.locs, Pt.cells, Pt.slots] at X127 l127 y127 z127 st127 hQ127 hSc127 hgr127
        subst l127 y127 z127
        obtain ⟨y127, rfl, N127q, Kc127, Fb_127, Fp_127, Fe_127⟩ := hQ127
        have N127 := Fr.app N123 N127q
        obtain ⟨X127, hS127, hZ, hown⟩ := rebS (s := s) (vm0 := T120.vm) hS120 (by rw [hh123]; exact (Nat.le_refl _)) X127 hSc127 hgr127 hZ hown
        have K127 : Keep h0 T127.heap [] := K120.trans Kc127 (allS (Or.inr sz_b106) all0)
        have pre128 : ∀ t, Steps p.tables e below (T127.setTop (mkF m 399 #[iv p0, iv p1, iv p2, iv p3, iv p4, iv mm, iv tA, iv tB, iv tT, iv c0, iv c1, iv c2, iv c3, rv b8, rv b106, rv x112, iv (1 : Int32)] [(.ref b106)])) t → Steps p.tables e below (s₁.setTop (entryFrame m #[(.int p0), (.int p1), (.int p2), (.int p3), (.int p4)] maxLocals)) t := by
          intro t kt
          refine pre126 _ ?_
          show Steps p.tables e below (T123.setTop (mkF m 388 #[iv p0, iv p1, iv p2, iv p3, iv p4, iv mm, iv tA, iv tB, iv tT, iv c0, iv c1, iv c2, iv c3, rv b8, rv b106, rv x112, iv (1 : Int32)] [(.ref b106)])) _
          refine st127.trans ?_
          show Steps p.tables e below (T127.setTop (mkF m 391 #[iv p0, iv p1, iv p2, iv p3, iv p4, iv mm, iv tA, iv tB, iv tT, iv c0, iv c1, iv c2, iv c3, rv b8, rv b106, rv x112, iv (1 : Int32)] [(.ref y127)])) _
          refine XS.pop X127.here hx rfl (hb hby at_391) rfl rfl ?_
          refine XS.iload X127.here hx rfl (hb hby at_392) rfl ?_
          refine XS.ifNo X127.here hx rfl (hb hby at_394) rfl ((if0 _ _).trans (feq (by decide)).1) ?_
          refine XS.aload X127.here hx rfl (hb hby at_397) rfl rfl ?_
          exact kt
        have f129 := ((f114.keep Kc120).keep Kc127)
        have f130 := ((f115.keep Kc120).keep Kc127)
        have f131 := ((Ex_112.keep Kc120).keep Kc127)
        obtain ⟨cq132, kq132, q132a, q132b, q132c⟩ := isOf hZ rfl f130
        obtain ⟨_, _, ⟨T132, L132, k132, n132⟩, -, X132, ⟨Lc132, hQ132, l132, y132, z132⟩, st132⟩ := X127.virtualBack hx (y := (⟨"com/example/fair_witness/fairwitness/attestation/DerReader", "hasMore", "()Z"⟩ : MethodName)) (z := (⟨"com/example/fair_witness/fairwitness/attestation/DerReader", "hasMore", "()Z"⟩ : MethodName)) hown (mvT hZ (hw _ (List.mem_of_getElem? (i := 52) rfl))) (mvT hZ (hw _ (List.mem_of_getElem? (i := 53) rfl))) (notFace_of_selects (args := #[]) (mvT hZ (hw _ (List.mem_of_getElem? (i := 55) rfl)))) (mvT hZ (hw _ (List.mem_of_getElem? (i := 55) rfl))) (mvT hZ (hw _ (List.mem_of_getElem? (i := 54) rfl))) (by decide) (backOf (W := 0) (rm10i0 l Z a0 hw [] b106 b8 (8 : Int32) (8 : Int32) T127.heap n0 (Nat.le_trans Z0 K127.1) Fb_127 Fp_127 Fe_127 f130 (by decide)) hZ (hw _ (List.mem_of_getElem? (i := 56) rfl)) (hw _ (List.mem_of_getElem? (i := 7) rfl)) (by decide) (by decide)) q132a q132c (g := (mkF m 399 #[iv p0, iv p1, iv p2, iv p3, iv p4, iv mm, iv tA, iv tB, iv tT, iv c0, iv c1, iv c2, iv c3, rv b8, rv b106, rv x112, iv (1 : Int32)] [(.ref b106)])) rfl (by rw [hml]; rfl) (Steps.refl _) (argsL := []) (rest := []) (lenOf pd14 rfl) rfl (by show 2 * 0 + _ ≤ _; exact Nat.le_of_eq rfl) (hb hby at_399) (fun _ _ => ⟨rfl, rfl, (by decide : 11 + 0 ≤ _), (by decide : 120 + 0 ≤ _)⟩)
        dsimp only [Pt.U, Pt.locs, Pt.cells, Pt.slots] at X132 l132 y132 z132 st132 hQ132
        subst l132 y132 z132
        obtain ⟨rfl, N132q, hh132⟩ := hQ132
        have N132 := Fr.app N127 N132q
        have pre133 : ∀ t, Steps p.tables e below (T132.setTop (mkF m 414 #[iv p0, iv p1, iv p2, iv p3, iv p4, iv mm, iv tA, iv tB, iv tT, iv c0, iv c1, iv c2, iv c3, rv b8, rv b106, rv x112, iv (1 : Int32)] [(.int (1 : Int32))])) t → Steps p.tables e below (s₁.setTop (entryFrame m #[(.int p0), (.int p1), (.int p2), (.int p3), (.int p4)] maxLocals)) t := by
          intro t kt
          refine pre128 _ ?_
          show Steps p.tables e below (T127.setTop (mkF m 399 #[iv p0, iv p1, iv p2, iv p3, iv p4, iv mm, iv tA, iv tB, iv tT, iv c0, iv c1, iv c2, iv c3, rv b8, rv b106, rv x112, iv (1 : Int32)] [(.ref b106)])) _
          refine st132.trans ?_
          show Steps p.tables e below (T132.setTop (mkF m 402 #[iv p0, iv p1, iv p2, iv p3, iv p4, iv mm, iv tA, iv tB, iv tT, iv c0, iv c1, iv c2, iv c3, rv b8, rv b106, rv x112, iv (1 : Int32)] [(.int (0 : Int32))])) _
          refine XS.ifNo X132.here hx rfl (hb hby at_402) rfl ((if0 _ _).trans (teq (by decide)).2) ?_
          refine XS.iconst X132.here hx rfl (hb hby at_405) ?_
          refine XS.goto X132.here hx rfl (pc0 := 406) (pc' := 410) rfl (hb hby at_406) (by decide) (by decide) ?_
          refine XS.istore X132.here hx rfl (hb hby at_410) rfl (l' := #[iv p0, iv p1, iv p2, iv p3, iv p4, iv mm, iv tA, iv tB, iv tT, iv c0, iv c1, iv c2, iv c3, rv b8, rv b106, rv x112, iv (1 : Int32)]) rfl ?_
          refine XS.iload X132.here hx rfl (hb hby at_412) rfl ?_
          exact kt
        obtain ⟨fs, hr, hrun, hended, hRW⟩ := Jvm.Stand.leaveW (s := s) (vm₁ := T127.vm) X132 hS127 (by rw [hh132]; exact (Nat.le_refl _)) (v := some (.int (1 : Int32))) (fun h => by rw [Bd.returns] at h; cases h)
        refine ⟨_, _, pre133 _ ?_, hrun, hended, _, _, rfl, ?_, hRW.1, hRW.2.1, hRW.2.2.1, hRW.2.2.2.mono (by decide) (by decide)⟩
        · show Steps p.tables e below (T132.setTop (mkF m 414 #[iv p0, iv p1, iv p2, iv p3, iv p4, iv mm, iv tA, iv tB, iv tT, iv c0, iv c1, iv c2, iv c3, rv b8, rv b106, rv x112, iv (1 : Int32)] [(.int (1 : Int32))])) _
          exact retN X132 hx (t := .boolean) Bd.returns (by simp) (hb hby at_414) hr
        · show Q0 Z p0 p1 p2 p3 p4 h0 n0 _ T132.heap _
          rw [hh132]
          exact ⟨rfl, N132⟩
      · have pre134 : ∀ t, Steps p.tables e below (T10.setTop (mkF m 221 #[iv p0, iv p1, iv p2, iv p3, iv p4, iv mm, iv tA, iv tB, iv tT, iv c0, iv c1, iv c2, iv c3, rv b8, .unset, .unset, .unset] [(.int (4 : Int32)), (.int (1 : Int32)), (.ref b8)])) t → Steps p.tables e below (s₁.setTop (entryFrame m #[(.int p0), (.int p1), (.int p2), (.int p3), (.int p4)] maxLocals)) t := by
          intro t kt
          refine pre90 _ ?_
          show Steps p.tables e below (T10.setTop (mkF m 170 #[iv p0, iv p1, iv p2, iv p3, iv p4, iv mm, iv tA, iv tB, iv tT, iv c0, iv c1, iv c2, iv c3, rv b8, .unset, .unset, .unset] [(.int (2 : Int32)), (.int mm)])) _
          refine XS.icmpYes X10.here hx rfl (pc0 := 170) (pc' := 217) rfl (hb hby at_170) rfl (feq hc170).2 (by decide) (by decide) ?_
          refine XS.aload X10.here hx rfl (hb hby at_217) rfl rfl ?_
          refine XS.iconst X10.here hx rfl (hb hby at_219) ?_
          refine XS.iconst X10.here hx rfl (hb hby at_220) ?_
          exact kt
        obtain ⟨cl135, Ar135, q135, S135, M135, H135, G135⟩ := id V10
        have hin135 : ¬ ((1 : Int32) < 0 ∨ cl135.slots.size ≤ ((1 : Int32)).toNatClampNeg) := inb_of S135 ⟨by decide, by decide⟩
        obtain ⟨T135, h135, X135, e135, W135, st135⟩ := stB X10 hx hZ e10 Ar135 (j := (1 : Int32)) hin135 (g := (mkF m 221 #[iv p0, iv p1, iv p2, iv p3, iv p4, iv mm, iv tA, iv tB, iv tT, iv c0, iv c1, iv c2, iv c3, rv b8, .unset, .unset, .unset] [(.int (4 : Int32)), (.int (1 : Int32)), (.ref b8)])) rfl rfl (hb hby at_221)
        have nn135 : nar .byte (4 : Int32) = (4 : Int32) := (by decide)
        rw [nn135] at W135
        have V135 : Arv Z h135 b8 k8 .byte (8 : Int32) [(.int (48 : Int32)), (.int (4 : Int32)), (.int (0 : Int32)), (.int (0 : Int32)), (.int (0 : Int32)), (.int (0 : Int32)), (.int (0 : Int32)), (.int (0 : Int32))] (.int (0 : Int32)) := Arv.set Ar135 q135 S135 M135 H135 G135 (own_fb nn135) W135 1 rfl (Nat.le_of_ble_eq_true rfl)
        have K135 : Keep h0 h135 [] := K10.wr W135 (Or.inr sz_b8)
        have N135 := Fr.snoc X135 N10 g_b8
        have pre136 : ∀ t, Steps p.tables e below (T135.setTop (mkF m 227 #[iv p0, iv p1, iv p2, iv p3, iv p4, iv mm, iv tA, iv tB, iv tT, iv c0, iv c1, iv c2, iv c3, rv b8, .unset, .unset, .unset] [(.int tA), (.int (2 : Int32)), (.ref b8)])) t → Steps p.tables e below (s₁.setTop (entryFrame m #[(.int p0), (.int p1), (.int p2), (.int p3), (.int p4)] maxLocals)) t := by
          intro t kt
          refine pre134 _ ?_
          show Steps p.tables e below (T10.setTop (mkF m 221 #[iv p0, iv p1, iv p2, iv p3, iv p4, iv mm, iv tA, iv tB, iv tT, iv c0, iv c1, iv c2, iv c3, rv b8, .unset, .unset, .unset] [(.int (4 : Int32)), (.int (1 : Int32)), (.ref b8)])) _
          refine st135 _ ?_
          show Steps p.tables e below (T135.setTop (mkF m 222 #[iv p0, iv p1, iv p2, iv p3, iv p4, iv mm, iv tA, iv tB, iv tT, iv c0, iv c1, iv c2, iv c3, rv b8, .unset, .unset, .unset] [])) _
          refine XS.aload X135.here hx rfl (hb hby at_222) rfl rfl ?_
          refine XS.iconst X135.here hx rfl (hb hby at_224) ?_
          refine XS.iload X135.here hx rfl (hb hby at_225) rfl ?_
          exact kt
        obtain ⟨cl137, Ar137, q137, S137, M137, H137, G137⟩ := id V135
        have hin137 : ¬ ((2 : Int32) < 0 ∨ cl137.slots.size ≤ ((2 : Int32)).toNatClampNeg) := inb_of S137 ⟨by decide, by decide⟩
        obtain ⟨T137, h137, X137, e137, W137, st137⟩ := stB X135 hx hZ e135 Ar137 (j := (2 : Int32)) hin137 (g := (mkF m 227 #[iv p0, iv p1, iv p2, iv p3, iv p4, iv mm, iv tA, iv tB, iv tT, iv c0, iv c1, iv c2, iv c3, rv b8, .unset, .unset, .unset] [(.int tA), (.int (2 : Int32)), (.ref b8)])) rfl rfl (hb hby at_227)
        have nn137 : nar .byte tA = tA := (by rw [h_tA]; exact own_nb _)
        rw [nn137] at W137
        have V137 : Arv Z h137 b8 k8 .byte (8 : Int32) [(.int (48 : Int32)), (.int (4 : Int32)), (.int tA), (.int (0 : Int32)), (.int (0 : Int32)), (.int (0 : Int32)), (.int (0 : Int32)), (.int (0 : Int32))] (.int (0 : Int32)) := Arv.set Ar137 q137 S137 M137 H137 G137 (own_fb nn137) W137 2 rfl (Nat.le_of_ble_eq_true rfl)
        have K137 : Keep h0 h137 [] := K135.wr W137 (Or.inr sz_b8)
        have N137 := Fr.snoc X137 N135 g_b8
        have pre138 : ∀ t, Steps p.tables e below (T137.setTop (mkF m 232 #[iv p0, iv p1, iv p2, iv p3, iv p4, iv mm, iv tA, iv tB, iv tT, iv c0, iv c1, iv c2, iv c3, rv b8, .unset, .unset, .unset] [(.int (0 : Int32)), (.int (3 : Int32)), (.ref b8)])) t → Steps p.tables e below (s₁.setTop (entryFrame m #[(.int p0), (.int p1), (.int p2), (.int p3), (.int p4)] maxLocals)) t := by
          intro t kt
          refine pre136 _ ?_
          show Steps p.tables e below (T135.setTop (mkF m 227 #[iv p0, iv p1, iv p2, iv p3, iv p4, iv mm, iv tA, iv tB, iv tT, iv c0, iv c1, iv c2, iv c3, rv b8, .unset, .unset, .unset] [(.int tA), (.int (2 : Int32)), (.ref b8)])) _
          refine st137 _ ?_
          show Steps p.tables e below (T137.setTop (mkF m 228 #[iv p0, iv p1, iv p2, iv p3, iv p4, iv mm, iv tA, iv tB, iv tT, iv c0, iv c1, iv c2, iv c3, rv b8, .unset, .unset, .unset] [])) _
          refine XS.aload X137.here hx rfl (hb hby at_228) rfl rfl ?_
          refine XS.iconst X137.here hx rfl (hb hby at_230) ?_
          refine XS.iconst X137.here hx rfl (hb hby at_231) ?_
          exact kt
        obtain ⟨cl139, Ar139, q139, S139, M139, H139, G139⟩ := id V137
        have hin139 : ¬ ((3 : Int32) < 0 ∨ cl139.slots.size ≤ ((3 : Int32)).toNatClampNeg) := inb_of S139 ⟨by decide, by decide⟩
        obtain ⟨T139, h139, X139, e139, W139, st139⟩ := stB X137 hx hZ e137 Ar139 (j := (3 : Int32)) hin139 (g := (mkF m 232 #[iv p0, iv p1, iv p2, iv p3, iv p4, iv mm, iv tA, iv tB, iv tT, iv c0, iv c1, iv c2, iv c3, rv b8, .unset, .unset, .unset] [(.int (0 : Int32)), (.int (3 : Int32)), (.ref b8)])) rfl rfl (hb hby at_232)
        have nn139 : nar .byte (0 : Int32) = (0 : Int32) := (by decide)
        rw [nn139] at W139
        have V139 : Arv Z h139 b8 k8 .byte (8 : Int32) [(.int (48 : Int32)), (.int (4 : Int32)), (.int tA), (.int (0 : Int32)), (.int (0 : Int32)), (.int (0 : Int32)), (.int (0 : Int32)), (.int (0 : Int32))] (.int (0 : Int32)) := Arv.set Ar139 q139 S139 M139 H139 G139 (own_fb nn139) W139 3 rfl (Nat.le_of_ble_eq_true rfl)
        have K139 : Keep h0 h139 [] := K137.wr W139 (Or.inr sz_b8)
        have N139 := Fr.snoc X139 N137 g_b8
        have pre140 : ∀ t, Steps p.tables e below (T139.setTop (mkF m 238 #[iv p0, iv p1, iv p2, iv p3, iv p4, iv mm, iv tA, iv tB, iv tT, iv c0, iv c1, iv c2, iv c3, rv b8, .unset, .unset, .unset] [(.int tB), (.int (4 : Int32)), (.ref b8)])) t → Steps p.tables e below (s₁.setTop (entryFrame m #[(.int p0), (.int p1), (.int p2), (.int p3), (.int p4)] maxLocals)) t := by
          intro t kt
          refine pre138 _ ?_
          show Steps p.tables e below (T137.setTop (mkF m 232 #[iv p0, iv p1, iv p2, iv p3, iv p4, iv mm, iv tA, iv tB, iv tT, iv c0, iv c1, iv c2, iv c3, rv b8, .unset, .unset, .unset] [(.int (0 : Int32)), (.int (3 : Int32)), (.ref b8)])) _
          refine st139 _ ?_
          show Steps p.tables e below (T139.setTop (mkF m 233 #[iv p0, iv p1, iv p2, iv p3, iv p4, iv mm, iv tA, iv tB, iv tT, iv c0, iv c1, iv c2, iv c3, rv b8, .unset, .unset, .unset] [])) _
          refine XS.aload X139.here hx rfl (hb hby at_233) rfl rfl ?_
          refine XS.iconst X139.here hx rfl (hb hby at_235) ?_
          refine XS.iload X139.here hx rfl (hb hby at_236) rfl ?_
          exact kt
        obtain ⟨cl141, Ar141, q141, S141, M141, H141, G141⟩ := id V139
        have hin141 : ¬ ((4 : Int32) < 0 ∨ cl141.slots.size ≤ ((4 : Int32)).toNatClampNeg) := inb_of S141 ⟨by decide, by decide⟩
        obtain ⟨T141, h141, X141, e141, W141, st141⟩ := stB X139 hx hZ e139 Ar141 (j := (4 : Int32)) hin141 (g := (mkF m 238 #[iv p0, iv p1, iv p2, iv p3, iv p4, iv mm, iv tA, iv tB, iv tT, iv c0, iv c1, iv c2, iv c3, rv b8, .unset, .unset, .unset] [(.int tB), (.int (4 : Int32)), (.ref b8)])) rfl rfl (hb hby at_238)
        have nn141 : nar .byte tB = tB := (by rw [h_tB]; exact own_nb _)
        rw [nn141] at W141
        have V141 : Arv Z h141 b8 k8 .byte (8 : Int32) [(.int (48 : Int32)), (.int (4 : Int32)), (.int tA), (.int (0 : Int32)), (.int tB), (.int (0 : Int32)), (.int (0 : Int32)), (.int (0 : Int32))] (.int (0 : Int32)) := Arv.set Ar141 q141 S141 M141 H141 G141 (own_fb nn141) W141 4 rfl (Nat.le_of_ble_eq_true rfl)
        have K141 : Keep h0 h141 [] := K139.wr W141 (Or.inr sz_b8)
        have N141 := Fr.snoc X141 N139 g_b8
        have pre142 : ∀ t, Steps p.tables e below (T141.setTop (mkF m 243 #[iv p0, iv p1, iv p2, iv p3, iv p4, iv mm, iv tA, iv tB, iv tT, iv c0, iv c1, iv c2, iv c3, rv b8, .unset, .unset, .unset] [(.int (0 : Int32)), (.int (5 : Int32)), (.ref b8)])) t → Steps p.tables e below (s₁.setTop (entryFrame m #[(.int p0), (.int p1), (.int p2), (.int p3), (.int p4)] maxLocals)) t := by
          intro t kt
          refine pre140 _ ?_
          show Steps p.tables e below (T139.setTop (mkF m 238 #[iv p0, iv p1, iv p2, iv p3, iv p4, iv mm, iv tA, iv tB, iv tT, iv c0, iv c1, iv c2, iv c3, rv b8, .unset, .unset, .unset] [(.int tB), (.int (4 : Int32)), (.ref b8)])) _
          refine st141 _ ?_
          show Steps p.tables e below (T141.setTop (mkF m 239 #[iv p0, iv p1, iv p2, iv p3, iv p4, iv mm, iv tA, iv tB, iv tT, iv c0, iv c1, iv c2, iv c3, rv b8, .unset, .unset, .unset] [])) _
          refine XS.aload X141.here hx rfl (hb hby at_239) rfl rfl ?_
          refine XS.iconst X141.here hx rfl (hb hby at_241) ?_
          refine XS.iconst X141.here hx rfl (hb hby at_242) ?_
          exact kt
        obtain ⟨cl143, Ar143, q143, S143, M143, H143, G143⟩ := id V141
        have hin143 : ¬ ((5 : Int32) < 0 ∨ cl143.slots.size ≤ ((5 : Int32)).toNatClampNeg) := inb_of S143 ⟨by decide, by decide⟩
        obtain ⟨T143, h143, X143, e143, W143, st143⟩ := stB X141 hx hZ e141 Ar143 (j := (5 : Int32)) hin143 (g := (mkF m 243 #[iv p0, iv p1, iv p2, iv p3, iv p4, iv mm, iv tA, iv tB, iv tT, iv c0, iv c1, iv c2, iv c3, rv b8, .unset, .unset, .unset] [(.int (0 : Int32)), (.int (5 : Int32)), (.ref b8)])) rfl rfl (hb hby at_243)
        have nn143 : nar .byte (0 : Int32) = (0 : Int32) := (by decide)
        rw [nn143] at W143
        have V143 : Arv Z h143 b8 k8 .byte (8 : Int32) [(.int (48 : Int32)), (.int (4 : Int32)), (.int tA), (.int (0 : Int32)), (.int tB), (.int (0 : Int32)), (.int (0 : Int32)), (.int (0 : Int32))] (.int (0 : Int32)) := Arv.set Ar143 q143 S143 M143 H143 G143 (own_fb nn143) W143 5 rfl (Nat.le_of_ble_eq_true rfl)
        have K143 : Keep h0 h143 [] := K141.wr W143 (Or.inr sz_b8)
        have N143 := Fr.snoc X143 N141 g_b8
        have pre144 : ∀ t, Steps p.tables e below (T143.setTop (mkF m 250 #[iv p0, iv p1, iv p2, iv p3, iv p4, iv mm, iv tA, iv tB, iv tT, iv c0, iv c1, iv c2, iv c3, rv b8, .unset, .unset, .unset] [(.int tT), (.int (6 : Int32)), (.ref b8)])) t → Steps p.tables e below (s₁.setTop (entryFrame m #[(.int p0), (.int p1), (.int p2), (.int p3), (.int p4)] maxLocals)) t := by
          intro t kt
          refine pre142 _ ?_
          show Steps p.tables e below (T141.setTop (mkF m 243 #[iv p0, iv p1, iv p2, iv p3, iv p4, iv mm, iv tA, iv tB, iv tT, iv c0, iv c1, iv c2, iv c3, rv b8, .unset, .unset, .unset] [(.int (0 : Int32)), (.int (5 : Int32)), (.ref b8)])) _
          refine st143 _ ?_
          show Steps p.tables e below (T143.setTop (mkF m 244 #[iv p0, iv p1, iv p2, iv p3, iv p4, iv mm, iv tA, iv tB, iv tT, iv c0, iv c1, iv c2, iv c3, rv b8, .unset, .unset, .unset] [])) _
          refine XS.aload X143.here hx rfl (hb hby at_244) rfl rfl ?_
          refine XS.bipush X143.here hx rfl (hb hby at_246) ?_
          refine XS.iload X143.here hx rfl (hb hby at_248) rfl ?_
          exact kt
        obtain ⟨cl145, Ar145, q145, S145, M145, H145, G145⟩ := id V143
        have hin145 : ¬ ((6 : Int32) < 0 ∨ cl145.slots.size ≤ ((6 : Int32)).toNatClampNeg) := inb_of S145 ⟨by decide, by decide⟩
        obtain ⟨T145, h145, X145, e145, W145, st145⟩ := stB X143 hx hZ e143 Ar145 (j := (6 : Int32)) hin145 (g := (mkF m 250 #[iv p0, iv p1, iv p2, iv p3, iv p4, iv mm, iv tA, iv tB, iv tT, iv c0, iv c1, iv c2, iv c3, rv b8, .unset, .unset, .unset] [(.int tT), (.int (6 : Int32)), (.ref b8)])) rfl rfl (hb hby at_250)
        have nn145 : nar .byte tT = tT := (by rw [h_tT]; exact own_nb _)
        rw [nn145] at W145
        have V145 : Arv Z h145 b8 k8 .byte (8 : Int32) [(.int (48 : Int32)), (.int (4 : Int32)), (.int tA), (.int (0 : Int32)), (.int tB), (.int (0 : Int32)), (.int tT), (.int (0 : Int32))] (.int (0 : Int32)) := Arv.set Ar145 q145 S145 M145 H145 G145 (own_fb nn145) W145 6 rfl (Nat.le_of_ble_eq_true rfl)
        have K145 : Keep h0 h145 [] := K143.wr W145 (Or.inr sz_b8)
        have N145 := Fr.snoc X145 N143 g_b8
        have pre146 : ∀ t, Steps p.tables e below (T145.setTop (mkF m 256 #[iv p0, iv p1, iv p2, iv p3, iv p4, iv mm, iv tA, iv tB, iv tT, iv c0, iv c1, iv c2, iv c3, rv b8, .unset, .unset, .unset] [(.int (0 : Int32)), (.int (7 : Int32)), (.ref b8)])) t → Steps p.tables e below (s₁.setTop (entryFrame m #[(.int p0), (.int p1), (.int p2), (.int p3), (.int p4)] maxLocals)) t := by
          intro t kt
          refine pre144 _ ?_
          show Steps p.tables e below (T143.setTop (mkF m 250 #[iv p0, iv p1, iv p2, iv p3, iv p4, iv mm, iv tA, iv tB, iv tT, iv c0, iv c1, iv c2, iv c3, rv b8, .unset, .unset, .unset] [(.int tT), (.int (6 : Int32)), (.ref b8)])) _
          refine st145 _ ?_
          show Steps p.tables e below (T145.setTop (mkF m 251 #[iv p0, iv p1, iv p2, iv p3, iv p4, iv mm, iv tA, iv tB, iv tT, iv c0, iv c1, iv c2, iv c3, rv b8, .unset, .unset, .unset] [])) _
          refine XS.aload X145.here hx rfl (hb hby at_251) rfl rfl ?_
          refine XS.bipush X145.here hx rfl (hb hby at_253) ?_
          refine XS.iconst X145.here hx rfl (hb hby at_255) ?_
          exact kt
        obtain ⟨cl147, Ar147, q147, S147, M147, H147, G147⟩ := id V145
        have hin147 : ¬ ((7 : Int32) < 0 ∨ cl147.slots.size ≤ ((7 : Int32)).toNatClampNeg) := inb_of S147 ⟨by decide, by decide⟩
        obtain ⟨T147, h147, X147, e147, W147, st147⟩ := stB X145 hx hZ e145 Ar147 (j := (7 : Int32)) hin147 (g := (mkF m 256 #[iv p0, iv p1, iv p2, iv p3, iv p4, iv mm, iv tA, iv tB, iv tT, iv c0, iv c1, iv c2, iv c3, rv b8, .unset, .unset, .unset] [(.int (0 : Int32)), (.int (7 : Int32)), (.ref b8)])) rfl rfl (hb hby at_256)
        have nn147 : nar .byte (0 : Int32) = (0 : Int32) := (by decide)
        rw [nn147] at W147
        have V147 : Arv Z h147 b8 k8 .byte (8 : Int32) [(.int (48 : Int32)), (.int (4 : Int32)), (.int tA), (.int (0 : Int32)), (.int tB), (.int (0 : Int32)), (.int tT), (.int (0 : Int32))] (.int (0 : Int32)) := Arv.set Ar147 q147 S147 M147 H147 G147 (own_fb nn147) W147 7 rfl (Nat.le_of_ble_eq_true rfl)
        have K147 : Keep h0 h147 [] := K145.wr W147 (Or.inr sz_b8)
        have N147 := Fr.snoc X147 N145 g_b8
        have pre148 : ∀ t, Steps p.tables e below (T147.setTop (mkF m 257 #[iv p0, iv p1, iv p2, iv p3, iv p4, iv mm, iv tA, iv tB, iv tT, iv c0, iv c1, iv c2, iv c3, rv b8, .unset, .unset, .unset] [])) t → Steps p.tables e below (s₁.setTop (entryFrame m #[(.int p0), (.int p1), (.int p2), (.int p3), (.int p4)] maxLocals)) t := by
          intro t kt
          refine pre146 _ ?_
          show Steps p.tables e below (T145.setTop (mkF m 256 #[iv p0, iv p1, iv p2, iv p3, iv p4, iv mm, iv tA, iv tB, iv tT, iv c0, iv c1, iv c2, iv c3, rv b8, .unset, .unset, .unset] [(.int (0 : Int32)), (.int (7 : Int32)), (.ref b8)])) _
          refine st147 _ ?_
          exact kt
        obtain ⟨T149, h149, X149, e149, E149, A149, D149, -, st149⟩ := newO X147 hx hZ hown (hw _ (List.mem_of_getElem? (i := 5) rfl)) (hw _ (List.mem_of_getElem? (i := 6) rfl)) (hw _ (List.mem_of_getElem? (i := 7) rfl)) e147 (g := (mkF m 257 #[iv p0, iv p1, iv p2, iv p3, iv p4, iv mm, iv tA, iv tB, iv tT, iv c0, iv c1, iv c2, iv c3, rv b8, .unset, .unset, .unset] [])) rfl (hb hby at_257) (by decide) (by decide)
        obtain ⟨b149, g149⟩ : ∃ z, z = h147.size := ⟨_, rfl⟩
        rw [← g149] at A149 D149 st149
        have g_b149 : n0 ≤ b149 := Nat.le_trans (Nat.le_trans Z0 K147.1) (Nat.le_of_eq g149.symm)
        have sz_b149 : h0.size ≤ b149 := Nat.le_trans K147.1 (Nat.le_of_eq g149.symm)
        have F_bytes_b149 : Fld Z h149 b149 "com/example/fair_witness/fairwitness/attestation/DerReader" "bytes" "[B" .null := D149 (Or.inr (hw _ (List.mem_of_getElem? (i := 18) rfl))) (ty := (.array .byte)) (by decide)
        have F_position_b149 : Fld Z h149 b149 "com/example/fair_witness/fairwitness/attestation/DerReader" "position" "I" (.int (0 : Int32)) := D149 (Or.inl (hw _ (List.mem_of_getElem? (i := 20) rfl))) (ty := .int) (by decide)
        have F_end_b149 : Fld Z h149 b149 "com/example/fair_witness/fairwitness/attestation/DerReader" "end" "I" (.int (0 : Int32)) := D149 (Or.inr (hw _ (List.mem_of_getElem? (i := 22) rfl))) (ty := .int) (by decide)
        have K149 : Keep h0 h149 [] := K147.ext E149
        have pre150 : ∀ t, Steps p.tables e below (T149.setTop (mkF m 263 #[iv p0, iv p1, iv p2, iv p3, iv p4, iv mm, iv tA, iv tB, iv tT, iv c0, iv c1, iv c2, iv c3, rv b8, .unset, .unset, .unset] [(.ref b8), (.ref b149), (.ref b149)])) t → Steps p.tables e below (s₁.setTop (entryFrame m #[(.int p0), (.int p1), (.int p2), (.int p3), (.int p4)] maxLocals)) t := by
          intro t kt
          refine pre148 _ ?_
          show Steps p.tables e below (T147.setTop (mkF m 257 #[iv p0, iv p1, iv p2, iv p3, iv p4, iv mm, iv tA, iv tB, iv tT, iv c0, iv c1, iv c2, iv c3, rv b8, .unset, .unset, .unset] [])) _
          refine st149 _ ?_
          show Steps p.tables e below (T149.setTop (mkF m 260 #[iv p0, iv p1, iv p2, iv p3, iv p4, iv mm, iv tA, iv tB, iv tT, iv c0, iv c1, iv c2, iv c3, rv b8, .unset, .unset, .unset] [(.ref b149)])) _
          refine XS.dup X149.here hx rfl (hb hby at_260) rfl rfl ?_
          refine XS.aload X149.here hx rfl (hb hby at_261) rfl rfl ?_
          exact kt
        have f151 := (((((((((Ex8.wr W10).wr W135).wr W137).wr W139).wr W141).wr W143).wr W145).wr W147).ext E149)
        obtain ⟨_, _, ⟨T152, L152, k152, n152⟩, -, X152, ⟨Lc152, hQ152, l152, y152, z152⟩, st152⟩ := X149.specialBack hx (y := (⟨"com/example/fair_witness/fairwitness/attestation/DerReader", "<init>", "([B)V"⟩ : MethodName)) rfl hown (mvT hZ (hw _ (List.mem_of_getElem? (i := 8) rfl))) (mvT hZ (hw _ (List.mem_of_getElem? (i := 9) rfl))) (mvT hZ (hw _ (List.mem_of_getElem? (i := 10) rfl))) (by decide) (backOf (W := 1) (rm2 l Z a0 hw [] b149 b8 k8 (48 : Int32) (4 : Int32) tA (0 : Int32) tB (0 : Int32) tT (0 : Int32) h149 n0 (Nat.le_trans Z0 K149.1) F_bytes_b149 F_position_b149 F_end_b149 A149 g_b149 (V147.ext E149)) hZ (hw _ (List.mem_of_getElem? (i := 10) rfl)) (hw _ (List.mem_of_getElem? (i := 7) rfl)) (by decide) (by decide)) (g := (mkF m 263 #[iv p0, iv p1, iv p2, iv p3, iv p4, iv mm, iv tA, iv tB, iv tT, iv c0, iv c1, iv c2, iv c3, rv b8, .unset, .unset, .unset] [(.ref b8), (.ref b149), (.ref b149)])) rfl (by rw [hml]; rfl) (Steps.refl _) (a := b149) (argsL := [(.ref b8)]) (rest := [(.ref b149)]) (lenOf pd12 rfl) rfl (by show 2 * 0 + _ ≤ _; exact Nat.le_of_eq rfl) (hb hby at_263) (fun _ _ => ⟨rfl, e149, (by decide : 2 + 0 ≤ _), (by decide : 11 + 0 ≤ _)⟩)
        dsimp only [Pt.U, Pt.locs, Pt.cells, Pt.slots] at X152 l152 y152 z152 st152 hQ152
        subst l152 y152 z152
        obtain ⟨rfl, N152q, Kc152, Fb_152, Fp_152, Fe_152⟩ := hQ152
        have N152 := Fr.app N147 N152q
        have K152 : Keep h0 T152.heap [] := K149.trans Kc152 (allS (Or.inr sz_b149) all0)
        have pre153 : ∀ t, Steps p.tables e below (T152.setTop (mkF m 270 #[iv p0, iv p1, iv p2, iv p3, iv p4, iv mm, iv tA, iv tB, iv tT, iv c0, iv c1, iv c2, iv c3, rv b8, rv b149, .unset, .unset] [(.ref b149)])) t → Steps p.tables e below (s₁.setTop (entryFrame m #[(.int p0), (.int p1), (.int p2), (.int p3), (.int p4)] maxLocals)) t := by
          intro t kt
          refine pre150 _ ?_
          show Steps p.tables e below (T149.setTop (mkF m 263 #[iv p0, iv p1, iv p2, iv p3, iv p4, iv mm, iv tA, iv tB, iv tT, iv c0, iv c1, iv c2, iv c3, rv b8, .unset, .unset, .unset] [(.ref b8), (.ref b149), (.ref b149)])) _
          refine st152.trans ?_
          show Steps p.tables e below (T152.setTop (mkF m 266 #[iv p0, iv p1, iv p2, iv p3, iv p4, iv mm, iv tA, iv tB, iv tT, iv c0, iv c1, iv c2, iv c3, rv b8, .unset, .unset, .unset] [(.ref b149)])) _
          refine XS.astore X152.here hx rfl (hb hby at_266) rfl rfl (l' := #[iv p0, iv p1, iv p2, iv p3, iv p4, iv mm, iv tA, iv tB, iv tT, iv c0, iv c1, iv c2, iv c3, rv b8, rv b149, .unset, .unset]) rfl ?_
          refine XS.aload X152.here hx rfl (hb hby at_268) rfl rfl ?_
          exact kt
        have f154 := ((V147.ext E149).keep Kc152 (ninS (Exa.ne (f151.keep Kc152) (A149.keep Kc152) (by decide)) nin0))
        obtain ⟨cq155, kq155, q155a, q155b, q155c⟩ := isOf hZ rfl (A149.keep Kc152)
        obtain ⟨_, _, ⟨T155, L155, k155, n155⟩, -, X155, hSc155, hgr155, ⟨Lc155, hQ155, l155, y155, z155⟩, st155⟩ := X152.virtualBackS hx (y := (⟨"com/example/fair_witness/fairwitness/attestation/DerReader", "readSequence", "()Lcom/example/fair_witness/fairwitness/attestation/DerReader;"⟩ : MethodName)) (z := (⟨"com/example/fair_witness/fairwitness/attestation/DerReader", "readSequence", "()Lcom/example/fair_witness/fairwitness/attestation/DerReader;"⟩ : MethodName)) hown (mvT hZ (hw _ (List.mem_of_getElem? (i := 23) rfl))) (mvT hZ (hw _ (List.mem_of_getElem? (i := 24) rfl))) (notFace_of_selects (args := #[]) (mvT hZ (hw _ (List.mem_of_getElem? (i := 26) rfl)))) (mvT hZ (hw _ (List.mem_of_getElem? (i := 26) rfl))) (mvT hZ (hw _ (List.mem_of_getElem? (i := 25) rfl))) (by decide) (backOfS (W := 0) (rm5 l Z a0 hw [] b149 b8 k8 (48 : Int32) (4 : Int32) tA (0 : Int32) tB (0 : Int32) tT (0 : Int32) (4 : Int32) (6 : Int32) T152.heap n0 (Nat.le_trans Z0 K152.1) Fb_152 Fp_152 Fe_152 (A149.keep Kc152) g_b149 f154 (f151.keep Kc152) (by decide) (by decide) (by decide) (by decide) (by decide) (by decide)) hZ (hw _ (List.mem_of_getElem? (i := 27) rfl)) (hw _ (List.mem_of_getElem? (i := 7) rfl)) (by decide) (by decide)) q155a q155c (g := (mkF m 270 #[iv p0, iv p1, iv p2, iv p3, iv p4, iv mm, iv tA, iv tB, iv tT, iv c0, iv c1, iv c2, iv c3, rv b8, rv b149, .unset, .unset] [(.ref b149)])) rfl (by rw [hml]; rfl) (Steps.refl _) (argsL := []) (rest := []) (lenOf pd13 rfl) rfl (by show 2 * 0 + _ ≤ _; exact Nat.le_of_eq rfl) (hb hby at_270) (fun _ _ => ⟨rfl, rfl, (by decide : 2 + 3 ≤ _), (by decide : 11 + 39 ≤ _)⟩)
        dsimp only [Pt.U, Pt.locs, Pt.cells, Pt.slots] at X155 l155 y155 z155 st155 hQ155 hSc155 hgr155
        subst l155 y155 z155
        obtain ⟨x155, rfl, N155q, Kc155, hx155, Fb_155, Fp_155, Fe_155, Ex_155, Fbx_155, Fpx_155, Fex_155⟩ := hQ155
        have N155 := Fr.app N152 N155q
        obtain ⟨X155, hS155, hZ, hown⟩ := rebS (s := s) (vm0 := s.vm) hS0 (Nat.le_trans (Nat.le_trans (Nat.le_trans (Nat.le_trans (Nat.le_trans (Nat.le_trans (Nat.le_trans (Nat.le_trans (Nat.le_trans (Nat.le_trans (Nat.le_trans (Nat.le_refl _) E8.1) (Nat.le_of_eq W10.size.symm)) (Nat.le_of_eq W135.size.symm)) (Nat.le_of_eq W137.size.symm)) (Nat.le_of_eq W139.size.symm)) (Nat.le_of_eq W141.size.symm)) (Nat.le_of_eq W143.size.symm)) (Nat.le_of_eq W145.size.symm)) (Nat.le_of_eq W147.size.symm)) E149.1) Kc152.1) X155 hSc155 hgr155 hZ hown
        have K155 : Keep h0 T155.heap [] := K152.trans Kc155 (allS (Or.inr sz_b149) all0)
        have g_x155 : n0 ≤ x155 := Nat.le_trans (Nat.le_trans Z0 K152.1) hx155
        have sz_x155 : h0.size ≤ x155 := Nat.le_trans K152.1 hx155
        have ne_155 : b149 ≠ x155 := Nat.ne_of_lt (Nat.lt_of_lt_of_le (A149.keep Kc152).lt hx155)
        have pre156 : ∀ t, Steps p.tables e below (T155.setTop (mkF m 277 #[iv p0, iv p1, iv p2, iv p3, iv p4, iv mm, iv tA, iv tB, iv tT, iv c0, iv c1, iv c2, iv c3, rv b8, rv b149, rv x155, .unset] [(.ref b149)])) t → Steps p.tables e below (s₁.setTop (entryFrame m #[(.int p0), (.int p1), (.int p2), (.int p3), (.int p4)] maxLocals)) t := by
          intro t kt
          refine pre153 _ ?_
          show Steps p.tables e below (T152.setTop (mkF m 270 #[iv p0, iv p1, iv p2, iv p3, iv p4, iv mm, iv tA, iv tB, iv tT, iv c0, iv c1, iv c2, iv c3, rv b8, rv b149, .unset, .unset] [(.ref b149)])) _
          refine st155.trans ?_
          show Steps p.tables e below (T155.setTop (mkF m 273 #[iv p0, iv p1, iv p2, iv p3, iv p4, iv mm, iv tA, iv tB, iv tT, iv c0, iv c1, iv c2, iv c3, rv b8, rv b149, .unset, .unset] [(.ref x155)])) _
          refine XS.astore X155.here hx rfl (hb hby at_273) rfl rfl (l' := #[iv p0, iv p1, iv p2, iv p3, iv p4, iv mm, iv tA, iv tB, iv tT, iv c0, iv c1, iv c2, iv c3, rv b8, rv b149, rv x155, .unset]) rfl ?_
          refine XS.aload X155.here hx rfl (hb hby at_275) rfl rfl ?_
          exact kt
        have f157 := ((f151.keep Kc152).keep Kc155)
        have f158 := ((A149.keep Kc152).keep Kc155)
        obtain ⟨cq159, kq159, q159a, q159b, q159c⟩ := isOf hZ rfl f158
        obtain ⟨_, _, ⟨T159, L159, k159, n159⟩, -, X159, ⟨Lc159, hQ159, l159, y159, z159⟩, st159⟩ := X155.virtualBack hx (y := (⟨"com/example/fair_witness/fairwitness/attestation/DerReader", "hasMore", "()Z"⟩ : MethodName)) (z := (⟨"com/example/fair_witness/fairwitness/attestation/DerReader", "hasMore", "()Z"⟩ : MethodName)) hown (mvT hZ (hw _ (List.mem_of_getElem? (i := 52) rfl))) (mvT hZ (hw _ (List.mem_of_getElem? (i := 53) rfl))) (notFace_of_selects (args := #[]) (mvT hZ (hw _ (List.mem_of_getElem? (i := 55) rfl)))) (mvT hZ (hw _ (List.mem_of_getElem? (i := 55) rfl))) (mvT hZ (hw _ (List.mem_of_getElem? (i := 54) rfl))) (by decide) (backOf (W := 0) (rm10i1 l Z a0 hw [] b149 b8 (6 : Int32) (8 : Int32) T155.heap n0 (Nat.le_trans Z0 K155.1) Fb_155 Fp_155 Fe_155 f158 (by decide)) hZ (hw _ (List.mem_of_getElem? (i := 56) rfl)) (hw _ (List.mem_of_getElem? (i := 7) rfl)) (by decide) (by decide)) q159a q159c (g := (mkF m 277 #[iv p0, iv p1, iv p2, iv p3, iv p4, iv mm, iv tA, iv tB, iv tT, iv c0, iv c1, iv c2, iv c3, rv b8, rv b149, rv x155, .unset] [(.ref b149)])) rfl (by rw [hml]; rfl) (Steps.refl _) (argsL := []) (rest := []) (lenOf pd14 rfl) rfl (by show 2 * 0 + _ ≤ _; exact Nat.le_of_eq rfl) (hb hby at_277) (fun _ _ => ⟨rfl, rfl, (by decide : 5 + 0 ≤ _), (by decide : 50 + 0 ≤ _)⟩)
        dsimp only [Pt.U, Pt.locs, Pt.cells, Pt.slots] at X159 l159 y159 z159 st159 hQ159
        subst l159 y159 z159
        obtain ⟨rfl, N159q, hh159⟩ := hQ159
        have N159 := Fr.app N155 N159q
        have pre160 : ∀ t, Steps p.tables e below (T159.setTop (mkF m 289 #[iv p0, iv p1, iv p2, iv p3, iv p4, iv mm, iv tA, iv tB, iv tT, iv c0, iv c1, iv c2, iv c3, rv b8, rv b149, rv x155, iv (1 : Int32)] [(.ref x155)])) t → Steps p.tables e below (s₁.setTop (entryFrame m #[(.int p0), (.int p1), (.int p2), (.int p3), (.int p4)] maxLocals)) t := by
          intro t kt
          refine pre156 _ ?_
          show Steps p.tables e below (T155.setTop (mkF m 277 #[iv p0, iv p1, iv p2, iv p3, iv p4, iv mm, iv tA, iv tB, iv tT, iv c0, iv c1, iv c2, iv c3, rv b8, rv b149, rv x155, .unset] [(.ref b149)])) _
          refine st159.trans ?_
          show Steps p.tables e below (T159.setTop (mkF m 280 #[iv p0, iv p1, iv p2, iv p3, iv p4, iv mm, iv tA, iv tB, iv tT, iv c0, iv c1, iv c2, iv c3, rv b8, rv b149, rv x155, .unset] [(.int (1 : Int32))])) _
          refine XS.istore X159.here hx rfl (hb hby at_280) rfl (l' := #[iv p0, iv p1, iv p2, iv p3, iv p4, iv mm, iv tA, iv tB, iv tT, iv c0, iv c1, iv c2, iv c3, rv b8, rv b149, rv x155, iv (1 : Int32)]) rfl ?_
          refine XS.iload X159.here hx rfl (hb hby at_282) rfl ?_
          refine XS.ifNo X159.here hx rfl (hb hby at_284) rfl ((if0 _ _).trans (feq (by decide)).1) ?_
          refine XS.aload X159.here hx rfl (hb hby at_287) rfl rfl ?_
          exact kt
        obtain ⟨cq161, kq161, q161a, q161b, q161c⟩ := isOf hZ hh159 Ex_155
        obtain ⟨_, _, ⟨T161, L161, k161, n161⟩, -, X161, ⟨Lc161, hQ161, l161, y161, z161⟩, st161⟩ := X159.virtualBack hx (y := (⟨"com/example/fair_witness/fairwitness/attestation/DerReader", "hasMore", "()Z"⟩ : MethodName)) (z := (⟨"com/example/fair_witness/fairwitness/attestation/DerReader", "hasMore", "()Z"⟩ : MethodName)) hown (mvT hZ (hw _ (List.mem_of_getElem? (i := 52) rfl))) (mvT hZ (hw _ (List.mem_of_getElem? (i := 53) rfl))) (notFace_of_selects (args := #[]) (mvT hZ (hw _ (List.mem_of_getElem? (i := 55) rfl)))) (mvT hZ (hw _ (List.mem_of_getElem? (i := 55) rfl))) (mvT hZ (hw _ (List.mem_of_getElem? (i := 54) rfl))) (by decide) (backOf (W := 0) (rm10i1 l Z a0 hw [] x155 b8 (2 : Int32) (6 : Int32) T155.heap n0 (Nat.le_trans Z0 K155.1) Fbx_155 Fpx_155 Fex_155 Ex_155 (by decide)) hZ (hw _ (List.mem_of_getElem? (i := 56) rfl)) (hw _ (List.mem_of_getElem? (i := 7) rfl)) (by decide) (by decide)) q161a q161c (g := (mkF m 289 #[iv p0, iv p1, iv p2, iv p3, iv p4, iv mm, iv tA, iv tB, iv tT, iv c0, iv c1, iv c2, iv c3, rv b8, rv b149, rv x155, iv (1 : Int32)] [(.ref x155)])) rfl (by rw [hml]; rfl) (Steps.refl _) (argsL := []) (rest := []) (lenOf pd14 rfl) rfl (by show 2 * 0 + _ ≤ _; exact Nat.le_of_eq rfl) (hb hby at_289) (fun _ _ => ⟨rfl, hh159, (by decide : 5 + 0 ≤ _), (by decide : 50 + 0 ≤ _)⟩)
        dsimp only [Pt.U, Pt.locs, Pt.cells, Pt.slots] at X161 l161 y161 z161 st161 hQ161
        subst l161 y161 z161
        obtain ⟨rfl, N161q, hh161⟩ := hQ161
        have N161 := Fr.app N159 N161q
        have pre162 : ∀ t, Steps p.tables e below (T161.setTop (mkF m 319 #[iv p0, iv p1, iv p2, iv p3, iv p4, iv mm, iv tA, iv tB, iv tT, iv c0, iv c1, iv c2, iv c3, rv b8, rv b149, rv x155, iv (1 : Int32)] [(.ref x155)])) t → Steps p.tables e below (s₁.setTop (entryFrame m #[(.int p0), (.int p1), (.int p2), (.int p3), (.int p4)] maxLocals)) t := by
          intro t kt
          refine pre160 _ ?_
          show Steps p.tables e below (T159.setTop (mkF m 289 #[iv p0, iv p1, iv p2, iv p3, iv p4, iv mm, iv tA, iv tB, iv tT, iv c0, iv c1, iv c2, iv c3, rv b8, rv b149, rv x155, iv (1 : Int32)] [(.ref x155)])) _
          refine st161.trans ?_
          show Steps p.tables e below (T161.setTop (mkF m 292 #[iv p0, iv p1, iv p2, iv p3, iv p4, iv mm, iv tA, iv tB, iv tT, iv c0, iv c1, iv c2, iv c3, rv b8, rv b149, rv x155, iv (1 : Int32)] [(.int (1 : Int32))])) _
          refine XS.iload X161.here hx rfl (hb hby at_292) rfl ?_
          refine XS.ifNo X161.here hx rfl (hb hby at_294) rfl ((if0 _ _).trans (feq hc69).1) ?_
          refine XS.iconst X161.here hx rfl (hb hby at_297) ?_
          refine XS.goto X161.here hx rfl (pc0 := 298) (pc' := 302) rfl (hb hby at_298) (by decide) (by decide) ?_
          refine XS.icmpNo X161.here hx rfl (hb hby at_302) rfl (teq (by decide)).2 ?_
          refine XS.iconst X161.here hx rfl (hb hby at_305) ?_
          refine XS.goto X161.here hx rfl (pc0 := 306) (pc' := 310) rfl (hb hby at_306) (by decide) (by decide) ?_
          refine XS.istore X161.here hx rfl (hb hby at_310) rfl (l' := #[iv p0, iv p1, iv p2, iv p3, iv p4, iv mm, iv tA, iv tB, iv tT, iv c0, iv c1, iv c2, iv c3, rv b8, rv b149, rv x155, iv (1 : Int32)]) rfl ?_
          refine XS.iload X161.here hx rfl (hb hby at_312) rfl ?_
          refine XS.ifNo X161.here hx rfl (hb hby at_314) rfl ((if0 _ _).trans (feq hc69).1) ?_
          refine XS.aload X161.here hx rfl (hb hby at_317) rfl rfl ?_
          exact kt
        obtain ⟨cq163, kq163, q163a, q163b, q163c⟩ := isOf hZ hh161 Ex_155
        obtain ⟨_, _, ⟨T163, L163, k163, n163⟩, -, X163, hSc163, hgr163, ⟨Lc163, hQ163, l163, y163, z163⟩, st163⟩ := X161.virtualBackS hx (y := (⟨"com/example/fair_witness/fairwitness/attestation/DerReader", "readElement", "()[B"⟩ : MethodName)) (z := (⟨"com/example/fair_witness/fairwitness/attestation/DerReader", "readElement", "()[B"⟩ : MethodName)) hown (mvT hZ (hw _ (List.mem_of_getElem? (i := 57) rfl))) (mvT hZ (hw _ (List.mem_of_getElem? (i := 58) rfl))) (notFace_of_selects (args := #[]) (mvT hZ (hw _ (List.mem_of_getElem? (i := 60) rfl)))) (mvT hZ (hw _ (List.mem_of_getElem? (i := 60) rfl))) (mvT hZ (hw _ (List.mem_of_getElem? (i := 59) rfl))) (by decide) (backOfS (W := 0) (rm11i2_0_6 l Z a0 hw [] x155 b8 k8 (48 : Int32) (4 : Int32) tA (0 : Int32) tB (0 : Int32) tT (0 : Int32) T155.heap n0 (Nat.le_trans Z0 K155.1) Fbx_155 Fpx_155 Fex_155 Ex_155 g_x155 (f154.keep Kc155 (ninS (Exa.ne f157 f158 (by decide)) nin0)) f157 (by rw [h_tA]; exact own_tagok _) (by decide)) hZ (hw _ (List.mem_of_getElem? (i := 61) rfl)) (hw _ (List.mem_of_getElem? (i := 7) rfl)) (by decide) (by decide)) q163a q163c (g := (mkF m 319 #[iv p0, iv p1, iv p2, iv p3, iv p4, iv mm, iv tA, iv tB, iv tT, iv c0, iv c1, iv c2, iv c3, rv b8, rv b149, rv x155, iv (1 : Int32)] [(.ref x155)])) rfl (by rw [hml]; rfl) (Steps.refl _) (argsL := []) (rest := []) (lenOf pd15 rfl) rfl (by show 2 * 0 + _ ≤ _; exact Nat.le_of_eq rfl) (hb hby at_319) (fun _ _ => ⟨rfl, hh161, (by decide : 5 + 3 ≤ _), (by decide : 50 + 34 ≤ _)⟩)
        dsimp only [Pt.U, Pt.locs, Pt.cells, Pt.slots] at X163 l163 y163 z163 st163 hQ163 hSc163 hgr163
        subst l163 y163 z163
        obtain ⟨y163, rfl, N163q, Kc163, Fb_163, Fp_163, Fe_163⟩ := hQ163
        have N163 := Fr.app N161 N163q
        obtain ⟨X163, hS163, hZ, hown⟩ := rebS (s := s) (vm0 := T155.vm) hS155 (by rw [hh161]; exact (Nat.le_refl _)) X163 hSc163 hgr163 hZ hown
        have K163 : Keep h0 T163.heap [] := K155.trans Kc163 (allS (Or.inr sz_x155) all0)
        have pre164 : ∀ t, Steps p.tables e below (T163.setTop (mkF m 330 #[iv p0, iv p1, iv p2, iv p3, iv p4, iv mm, iv tA, iv tB, iv tT, iv c0, iv c1, iv c2, iv c3, rv b8, rv b149, rv x155, iv (1 : Int32)] [(.ref x155)])) t → Steps p.tables e below (s₁.setTop (entryFrame m #[(.int p0), (.int p1), (.int p2), (.int p3), (.int p4)] maxLocals)) t := by
          intro t kt
          refine pre162 _ ?_
          show Steps p.tables e below (T161.setTop (mkF m 319 #[iv p0, iv p1, iv p2, iv p3, iv p4, iv mm, iv tA, iv tB, iv tT, iv c0, iv c1, iv c2, iv c3, rv b8, rv b149, rv x155, iv (1 : Int32)] [(.ref x155)])) _
          refine st163.trans ?_
          show Steps p.tables e below (T163.setTop (mkF m 322 #[iv p0, iv p1, iv p2, iv p3, iv p4, iv mm, iv tA, iv tB, iv tT, iv c0, iv c1, iv c2, iv c3, rv b8, rv b149, rv x155, iv (1 : Int32)] [(.ref y163)])) _
          refine XS.pop X163.here hx rfl (hb hby at_322) rfl rfl ?_
          refine XS.iload X163.here hx rfl (hb hby at_323) rfl ?_
          refine XS.ifNo X163.here hx rfl (hb hby at_325) rfl ((if0 _ _).trans (feq (by decide)).1) ?_
          refine XS.aload X163.here hx rfl (hb hby at_328) rfl rfl ?_
          exact kt
        have f165 := ((f154.keep Kc155 (ninS (Exa.ne (f157.keep Kc163) (f158.keep Kc163) (by decide)) nin0)).keep Kc163 (ninS (Exa.ne (f157.keep Kc163) (Ex_155.keep Kc163) (by decide)) nin0))
        obtain ⟨cq166, kq166, q166a, q166b, q166c⟩ := isOf hZ rfl (Ex_155.keep Kc163)
        obtain ⟨_, _, ⟨T166, L166, k166, n166⟩, -, X166, ⟨Lc166, hQ166, l166, y166, z166⟩, st166⟩ := X163.virtualBack hx (y := (⟨"com/example/fair_witness/fairwitness/attestation/DerReader", "hasMore", "()Z"⟩ : MethodName)) (z := (⟨"com/example/fair_witness/fairwitness/attestation/DerReader", "hasMore", "()Z"⟩ : MethodName)) hown (mvT hZ (hw _ (List.mem_of_getElem? (i := 52) rfl))) (mvT hZ (hw _ (List.mem_of_getElem? (i := 53) rfl))) (notFace_of_selects (args := #[]) (mvT hZ (hw _ (List.mem_of_getElem? (i := 55) rfl)))) (mvT hZ (hw _ (List.mem_of_getElem? (i := 55) rfl))) (mvT hZ (hw _ (List.mem_of_getElem? (i := 54) rfl))) (by decide) (backOf (W := 0) (rm10i1 l Z a0 hw [] x155 b8 (4 : Int32) (6 : Int32) T163.heap n0 (Nat.le_trans Z0 K163.1) Fb_163 Fp_163 Fe_163 (Ex_155.keep Kc163) (by decide)) hZ (hw _ (List.mem_of_getElem? (i := 56) rfl)) (hw _ (List.mem_of_getElem? (i := 7) rfl)) (by decide) (by decide)) q166a q166c (g := (mkF m 330 #[iv p0, iv p1, iv p2, iv p3, iv p4, iv mm, iv tA, iv tB, iv tT, iv c0, iv c1, iv c2, iv c3, rv b8, rv b149, rv x155, iv (1 : Int32)] [(.ref x155)])) rfl (by rw [hml]; rfl) (Steps.refl _) (argsL := []) (rest := []) (lenOf pd14 rfl) rfl (by show 2 * 0 + _ ≤ _; exact Nat.le_of_eq rfl) (hb hby at_330) (fun _ _ => ⟨rfl, rfl, (by decide : 8 + 0 ≤ _), (by decide : 84 + 0 ≤ _)⟩)
        dsimp only [Pt.U, Pt.locs, Pt.cells, Pt.slots] at X166 l166 y166 z166 st166 hQ166
        subst l166 y166 z166
        obtain ⟨rfl, N166q, hh166⟩ := hQ166
        have N166 := Fr.app N163 N166q
        have pre168 : ∀ t, Steps p.tables e below (T166.setTop (mkF m 336 #[iv p0, iv p1, iv p2, iv p3, iv p4, iv mm, iv tA, iv tB, iv tT, iv c0, iv c1, iv c2, iv c3, rv b8, rv b149, rv x155, iv (1 : Int32)] [(.int (3 : Int32)), (.int mm), (.int (1 : Int32))])) t → Steps p.tables e below (s₁.setTop (entryFrame m #[(.int p0), (.int p1), (.int p2), (.int p3), (.int p4)] maxLocals)) t := by
          intro t kt
          refine pre164 _ ?_
          show Steps p.tables e below (T163.setTop (mkF m 330 #[iv p0, iv p1, iv p2, iv p3, iv p4, iv mm, iv tA, iv tB, iv tT, iv c0, iv c1, iv c2, iv c3, rv b8, rv b149, rv x155, iv (1 : Int32)] [(.ref x155)])) _
          refine st166.trans ?_
          show Steps p.tables e below (T166.setTop (mkF m 333 #[iv p0, iv p1, iv p2, iv p3, iv p4, iv mm, iv tA, iv tB, iv tT, iv c0, iv c1, iv c2, iv c3, rv b8, rv b149, rv x155, iv (1 : Int32)] [(.int (1 : Int32))])) _
          refine XS.iload X166.here hx rfl (hb hby at_333) rfl ?_
          refine XS.iconst X166.here hx rfl (hb hby at_335) ?_
          exact kt
        have hc336_167 : mm = (3 : Int32) := (h_mm.trans (own_m3 (fun q => hc69 (h_mm.trans q)) (fun q => hc120 (h_mm.trans q)) (fun q => hc170 (h_mm.trans q))))
        have pre169 : ∀ t, Steps p.tables e below (T166.setTop (mkF m 362 #[iv p0, iv p1, iv p2, iv p3, iv p4, iv mm, iv tA, iv tB, iv tT, iv c0, iv c1, iv c2, iv c3, rv b8, rv b149, rv x155, iv (1 : Int32)] [(.ref x155)])) t → Steps p.tables e below (s₁.setTop (entryFrame m #[(.int p0), (.int p1), (.int p2), (.int p3), (.int p4)] maxLocals)) t := by
          intro t kt
          refine pre168 _ ?_
          show Steps p.tables e below (T166.setTop (mkF m 336 #[iv p0, iv p1, iv p2, iv p3, iv p4, iv mm, iv tA, iv tB, iv tT, iv c0, iv c1, iv c2, iv c3, rv b8, rv b149, rv x155, iv (1 : Int32)] [(.int (3 : Int32)), (.int mm), (.int (1 : Int32))])) _
          refine XS.icmpNo X166.here hx rfl (hb hby at_336) rfl (teq hc336_167).2 ?_
          refine XS.iconst X166.here hx rfl (hb hby at_339) ?_
          refine XS.goto X166.here hx rfl (pc0 := 340) (pc' := 344) rfl (hb hby at_340) (by decide) (by decide) ?_
          refine XS.icmpNo X166.here hx rfl (hb hby at_344) rfl (teq (by decide)).2 ?_
          refine XS.iconst X166.here hx rfl (hb hby at_347) ?_
          refine XS.goto X166.here hx rfl (pc0 := 348) (pc' := 352) rfl (hb hby at_348) (by decide) (by decide) ?_
          refine XS.istore X166.here hx rfl (hb hby at_352) rfl (l' := #[iv p0, iv p1, iv p2, iv p3, iv p4, iv mm, iv tA, iv tB, iv tT, iv c0, iv c1, iv c2, iv c3, rv b8, rv b149, rv x155, iv (1 : Int32)]) rfl ?_
          refine XS.iload X166.here hx rfl (hb hby at_354) rfl ?_
          refine XS.iconst X166.here hx rfl (hb hby at_356) ?_
          refine XS.icmpNo X166.here hx rfl (hb hby at_357) rfl (teq hc336_167).2 ?_
          refine XS.aload X166.here hx rfl (hb hby at_360) rfl rfl ?_
          exact kt
        obtain ⟨cq170, kq170, q170a, q170b, q170c⟩ := isOf hZ hh166 (Ex_155.keep Kc163)
        obtain ⟨_, _, ⟨T170, L170, k170, n170⟩, -, X170, hSc170, hgr170, ⟨Lc170, hQ170, l170, y170, z170⟩, st170⟩ := X166.virtualBackS hx (y := (⟨"com/example/fair_witness/fairwitness/attestation/DerReader", "readElement", "()[B"⟩ : MethodName)) (z := (⟨"com/example/fair_witness/fairwitness/attestation/DerReader", "readElement", "()[B"⟩ : MethodName)) hown (mvT hZ (hw _ (List.mem_of_getElem? (i := 57) rfl))) (mvT hZ (hw _ (List.mem_of_getElem? (i := 58) rfl))) (notFace_of_selects (args := #[]) (mvT hZ (hw _ (List.mem_of_getElem? (i := 60) rfl)))) (mvT hZ (hw _ (List.mem_of_getElem? (i := 60) rfl))) (mvT hZ (hw _ (List.mem_of_getElem? (i := 59) rfl))) (by decide) (backOfS (W := 0) (rm11i4_0_6 l Z a0 hw [] x155 b8 k8 (48 : Int32) (4 : Int32) tA (0 : Int32) tB (0 : Int32) tT (0 : Int32) T163.heap n0 (Nat.le_trans Z0 K163.1) Fb_163 Fp_163 Fe_163 (Ex_155.keep Kc163) g_x155 f165 (f157.keep Kc163) (by rw [h_tB]; exact own_tagok _) (by decide)) hZ (hw _ (List.mem_of_getElem? (i := 61) rfl)) (hw _ (List.mem_of_getElem? (i := 7) rfl)) (by decide) (by decide)) q170a q170c (g := (mkF m 362 #[iv p0, iv p1, iv p2, iv p3, iv p4, iv mm, iv tA, iv tB, iv tT, iv c0, iv c1, iv c2, iv c3, rv b8, rv b149, rv x155, iv (1 : Int32)] [(.ref x155)])) rfl (by rw [hml]; rfl) (Steps.refl _) (argsL := []) (rest := []) (lenOf pd15 rfl) rfl (by show 2 * 0 + _ ≤ _; exact Nat.le_of_eq rfl) (hb hby at_362) (fun _ _ => ⟨rfl, hh166, (by decide : 8 + 3 ≤ _), (by decide : 84 + 34 ≤ _)⟩)
        dsimp only [Pt.U, Pt.locs, Pt.cells, Pt.slots] at X170 l170 y170 z170 st170 hQ170 hSc170 hgr170
        subst l170 y170 z170
        obtain ⟨y170, rfl, N170q, Kc170, Fb_170, Fp_170, Fe_170⟩ := hQ170
        have N170 := Fr.app N166 N170q
        obtain ⟨X170, hS170, hZ, hown⟩ := rebS (s := s) (vm0 := T163.vm) hS163 (by rw [hh166]; exact (Nat.le_refl _)) X170 hSc170 hgr170 hZ hown
        have K170 : Keep h0 T170.heap [] := K163.trans Kc170 (allS (Or.inr sz_x155) all0)
        have pre171 : ∀ t, Steps p.tables e below (T170.setTop (mkF m 373 #[iv p0, iv p1, iv p2, iv p3, iv p4, iv mm, iv tA, iv tB, iv tT, iv c0, iv c1, iv c2, iv c3, rv b8, rv b149, rv x155, iv (1 : Int32)] [(.ref x155)])) t → Steps p.tables e below (s₁.setTop (entryFrame m #[(.int p0), (.int p1), (.int p2), (.int p3), (.int p4)] maxLocals)) t := by
          intro t kt
          refine pre169 _ ?_
          show Steps p.tables e below (T166.setTop (mkF m 362 #[iv p0, iv p1, iv p2, iv p3, iv p4, iv mm, iv tA, iv tB, iv tT, iv c0, iv c1, iv c2, iv c3, rv b8, rv b149, rv x155, iv (1 : Int32)] [(.ref x155)])) _
          refine st170.trans ?_
          show Steps p.tables e below (T170.setTop (mkF m 365 #[iv p0, iv p1, iv p2, iv p3, iv p4, iv mm, iv tA, iv tB, iv tT, iv c0, iv c1, iv c2, iv c3, rv b8, rv b149, rv x155, iv (1 : Int32)] [(.ref y170)])) _
          refine XS.pop X170.here hx rfl (hb hby at_365) rfl rfl ?_
          refine XS.iload X170.here hx rfl (hb hby at_366) rfl ?_
          refine XS.ifNo X170.here hx rfl (hb hby at_368) rfl ((if0 _ _).trans (feq (by decide)).1) ?_
          refine XS.aload X170.here hx rfl (hb hby at_371) rfl rfl ?_
          exact kt
        have f172 := ((f157.keep Kc163).keep Kc170)
        have f173 := ((f158.keep Kc163).keep Kc170)
        have f174 := ((Fb_155.keep Kc163 (ninS ne_155 nin0)).keep Kc170 (ninS ne_155 nin0))
        have f175 := ((Fp_155.keep Kc163 (ninS ne_155 nin0)).keep Kc170 (ninS ne_155 nin0))
        have f176 := ((Fe_155.keep Kc163 (ninS ne_155 nin0)).keep Kc170 (ninS ne_155 nin0))
        have f177 := ((Ex_155.keep Kc163).keep Kc170)
        obtain ⟨cq178, kq178, q178a, q178b, q178c⟩ := isOf hZ rfl f177
        obtain ⟨_, _, ⟨T178, L178, k178, n178⟩, -, X178, ⟨Lc178, hQ178, l178, y178, z178⟩, st178⟩ := X170.virtualBack hx (y := (⟨"com/example/fair_witness/fairwitness/attestation/DerReader", "hasMore", "()Z"⟩ : MethodName)) (z := (⟨"com/example/fair_witness/fairwitness/attestation/DerReader", "hasMore", "()Z"⟩ : MethodName)) hown (mvT hZ (hw _ (List.mem_of_getElem? (i := 52) rfl))) (mvT hZ (hw _ (List.mem_of_getElem? (i := 53) rfl))) (notFace_of_selects (args := #[]) (mvT hZ (hw _ (List.mem_of_getElem? (i := 55) rfl)))) (mvT hZ (hw _ (List.mem_of_getElem? (i := 55) rfl))) (mvT hZ (hw _ (List.mem_of_getElem? (i := 54) rfl))) (by decide) (backOf (W := 0) (rm10i0 l Z a0 hw [] x155 b8 (6 : Int32) (6 : Int32) T170.heap n0 (Nat.le_trans Z0 K170.1) Fb_170 Fp_170 Fe_170 f177 (by decide)) hZ (hw _ (List.mem_of_getElem? (i := 56) rfl)) (hw _ (List.mem_of_getElem? (i := 7) rfl)) (by decide) (by decide)) q178a q178c (g := (mkF m 373 #[iv p0, iv p1, iv p2, iv p3, iv p4, iv mm, iv tA, iv tB, iv tT, iv c0, iv c1, iv c2, iv c3, rv b8, rv b149, rv x155, iv (1 : Int32)] [(.ref x155)])) rfl (by rw [hml]; rfl) (Steps.refl _) (argsL := []) (rest := []) (lenOf pd14 rfl) rfl (by show 2 * 0 + _ ≤ _; exact Nat.le_of_eq rfl) (hb hby at_373) (fun _ _ => ⟨rfl, rfl, (by decide : 11 + 0 ≤ _), (by decide : 118 + 0 ≤ _)⟩)
        dsimp only [Pt.U, Pt.locs, Pt.cells, Pt.slots] at X178 l178 y178 z178 st178 hQ178
        subst l178 y178 z178
        obtain ⟨rfl, N178q, hh178⟩ := hQ178
        have N178 := Fr.app N170 N178q
        have pre179 : ∀ t, Steps p.tables e below (T178.setTop (mkF m 388 #[iv p0, iv p1, iv p2, iv p3, iv p4, iv mm, iv tA, iv tB, iv tT, iv c0, iv c1, iv c2, iv c3, rv b8, rv b149, rv x155, iv (1 : Int32)] [(.ref b149)])) t → Steps p.tables e below (s₁.setTop (entryFrame m #[(.int p0), (.int p1), (.int p2), (.int p3), (.int p4)] maxLocals)) t := by
          intro t kt
          refine pre171 _ ?_
          show Steps p.tables e below (T170.setTop (mkF m 373 #[iv p0, iv p1, iv p2, iv p3, iv p4, iv mm, iv tA, iv tB, iv tT, iv c0, iv c1, iv c2, iv c3, rv b8, rv b149, rv x155, iv (1 : Int32)] [(.ref x155)])) _
          refine st178.trans ?_
          show Steps p.tables e below (T178.setTop (mkF m 376 #[iv p0, iv p1, iv p2, iv p3, iv p4, iv mm, iv tA, iv tB, iv tT, iv c0, iv c1, iv c2, iv c3, rv b8, rv b149, rv x155, iv (1 : Int32)] [(.int (0 : Int32))])) _
          refine XS.ifNo X178.here hx rfl (hb hby at_376) rfl ((if0 _ _).trans (teq (by decide)).2) ?_
          refine XS.iconst X178.here hx rfl (hb hby at_379) ?_
          refine XS.goto X178.here hx rfl (pc0 := 380) (pc' := 384) rfl (hb hby at_380) (by decide) (by decide) ?_
          refine XS.istore X178.here hx rfl (hb hby at_384) rfl (l' := #[iv p0, iv p1, iv p2, iv p3, iv p4, iv mm, iv tA, iv tB, iv tT, iv c0, iv c1, iv c2, iv c3, rv b8, rv b149, rv x155, iv (1 : Int32)]) rfl ?_
          refine XS.aload X178.here hx rfl (hb hby at_386) rfl rfl ?_
          exact kt
        obtain ⟨cq180, kq180, q180a, q180b, q180c⟩ := isOf hZ hh178 f173
        obtain ⟨_, _, ⟨T180, L180, k180, n180⟩, -, X180, hSc180, hgr180, ⟨Lc180, hQ180, l180, y180, z180⟩, st180⟩ := X178.virtualBackS hx (y := (⟨"com/example/fair_witness/fairwitness/attestation/DerReader", "readElement", "()[B"⟩ : MethodName)) (z := (⟨"com/example/fair_witness/fairwitness/attestation/DerReader", "readElement", "()[B"⟩ : MethodName)) hown (mvT hZ (hw _ (List.mem_of_getElem? (i := 57) rfl))) (mvT hZ (hw _ (List.mem_of_getElem? (i := 58) rfl))) (notFace_of_selects (args := #[]) (mvT hZ (hw _ (List.mem_of_getElem? (i := 60) rfl)))) (mvT hZ (hw _ (List.mem_of_getElem? (i := 60) rfl))) (mvT hZ (hw _ (List.mem_of_getElem? (i := 59) rfl))) (by decide) (backOfS (W := 0) (rm11i6_0_8 l Z a0 hw [] b149 b8 k8 (48 : Int32) (4 : Int32) tA (0 : Int32) tB (0 : Int32) tT (0 : Int32) T170.heap n0 (Nat.le_trans Z0 K170.1) f174 f175 f176 f173 g_b149 (f165.keep Kc170 (ninS (Exa.ne f172 f177 (by decide)) nin0)) f172 (by rw [h_tT]; exact own_tagok _) (by decide)) hZ (hw _ (List.mem_of_getElem? (i := 61) rfl)) (hw _ (List.mem_of_getElem? (i := 7) rfl)) (by decide) (by decide)) q180a q180c (g := (mkF m 388 #[iv p0, iv p1, iv p2, iv p3, iv p4, iv mm, iv tA, iv tB, iv tT, iv c0, iv c1, iv c2, iv c3, rv b8, rv b149, rv x155, iv (1 : Int32)] [(.ref b149)])) rfl (by rw [hml]; rfl) (Steps.refl _) (argsL := []) (rest := []) (lenOf pd15 rfl) rfl (by show 2 * 0 + _ ≤ _; exact Nat.le_of_eq rfl) (hb hby at_388) (fun _ _ => ⟨rfl, hh178, (by decide : 11 + 3 ≤ _), (by decide : 118 + 34 ≤ _)⟩)
        dsimp only [Pt.U, Pt.locs, Pt.cells, Pt.slots] at X180 l180 y180 z180 st180 hQ180 hSc180 hgr180
        subst l180 y180 z180
        obtain ⟨y180, rfl, N180q, Kc180, Fb_180, Fp_180, Fe_180⟩ := hQ180
        have N180 := Fr.app N178 N180q
        obtain ⟨X180, hS180, hZ, hown⟩ := rebS (s := s) (vm0 := T170.vm) hS170 (by rw [hh178]; exact (Nat.le_refl _)) X180 hSc180 hgr180 hZ hown
        have K180 : Keep h0 T180.heap [] := K170.trans Kc180 (allS (Or.inr sz_b149) all0)
        have pre181 : ∀ t, Steps p.tables e below (T180.setTop (mkF m 399 #[iv p0, iv p1, iv p2, iv p3, iv p4, iv mm, iv tA, iv tB, iv tT, iv c0, iv c1, iv c2, iv c3, rv b8, rv b149, rv x155, iv (1 : Int32)] [(.ref b149)])) t → Steps p.tables e below (s₁.setTop (entryFrame m #[(.int p0), (.int p1), (.int p2), (.int p3), (.int p4)] maxLocals)) t := by
          intro t kt
          refine pre179 _ ?_
          show Steps p.tables e below (T178.setTop (mkF m 388 #[iv p0, iv p1, iv p2, iv p3, iv p4, iv mm, iv tA, iv tB, iv tT, iv c0, iv c1, iv c2, iv c3, rv b8, rv b149, rv x155, iv (1 : Int32)] [(.ref b149)])) _
          refine st180.trans ?_
          show Steps p.tables e below (T180.setTop (mkF m 391 #[iv p0, iv p1, iv p2, iv p3, iv p4, iv mm, iv tA, iv tB, iv tT, iv c0, iv c1, iv c2, iv c3, rv b8, rv b149, rv x155, iv (1 : Int32)] [(.ref y180)])) _
          refine XS.pop X180.here hx rfl (hb hby at_391) rfl rfl ?_
          refine XS.iload X180.here hx rfl (hb hby at_392) rfl ?_
          refine XS.ifNo X180.here hx rfl (hb hby at_394) rfl ((if0 _ _).trans (feq (by decide)).1) ?_
          refine XS.aload X180.here hx rfl (hb hby at_397) rfl rfl ?_
          exact kt
        have f182 := ((f165.keep Kc170 (ninS (Exa.ne (f172.keep Kc180) (f177.keep Kc180) (by decide)) nin0)).keep Kc180 (ninS (Exa.ne (f172.keep Kc180) (f173.keep Kc180) (by decide)) nin0))
        obtain ⟨cq183, kq183, q183a, q183b, q183c⟩ := isOf hZ rfl (f173.keep Kc180)
        obtain ⟨_, _, ⟨T183, L183, k183, n183⟩, -, X183, ⟨Lc183, hQ183, l183, y183, z183⟩, st183⟩ := X180.virtualBack hx (y := (⟨"com/example/fair_witness/fairwitness/attestation/DerReader", "hasMore", "()Z"⟩ : MethodName)) (z := (⟨"com/example/fair_witness/fairwitness/attestation/DerReader", "hasMore", "()Z"⟩ : MethodName)) hown (mvT hZ (hw _ (List.mem_of_getElem? (i := 52) rfl))) (mvT hZ (hw _ (List.mem_of_getElem? (i := 53) rfl))) (notFace_of_selects (args := #[]) (mvT hZ (hw _ (List.mem_of_getElem? (i := 55) rfl)))) (mvT hZ (hw _ (List.mem_of_getElem? (i := 55) rfl))) (mvT hZ (hw _ (List.mem_of_getElem? (i := 54) rfl))) (by decide) (backOf (W := 0) (rm10i0 l Z a0 hw [] b149 b8 (8 : Int32) (8 : Int32) T180.heap n0 (Nat.le_trans Z0 K180.1) Fb_180 Fp_180 Fe_180 (f173.keep Kc180) (by decide)) hZ (hw _ (List.mem_of_getElem? (i := 56) rfl)) (hw _ (List.mem_of_getElem? (i := 7) rfl)) (by decide) (by decide)) q183a q183c (g := (mkF m 399 #[iv p0, iv p1, iv p2, iv p3, iv p4, iv mm, iv tA, iv tB, iv tT, iv c0, iv c1, iv c2, iv c3, rv b8, rv b149, rv x155, iv (1 : Int32)] [(.ref b149)])) rfl (by rw [hml]; rfl) (Steps.refl _) (argsL := []) (rest := []) (lenOf pd14 rfl) rfl (by show 2 * 0 + _ ≤ _; exact Nat.le_of_eq rfl) (hb hby at_399) (fun _ _ => ⟨rfl, rfl, (by decide : 14 + 0 ≤ _), (by decide : 152 + 0 ≤ _)⟩)
        dsimp only [Pt.U, Pt.locs, Pt.cells, Pt.slots] at X183 l183 y183 z183 st183 hQ183
        subst l183 y183 z183
        obtain ⟨rfl, N183q, hh183⟩ := hQ183
        have N183 := Fr.app N180 N183q
        have pre184 : ∀ t, Steps p.tables e below (T183.setTop (mkF m 414 #[iv p0, iv p1, iv p2, iv p3, iv p4, iv mm, iv tA, iv tB, iv tT, iv c0, iv c1, iv c2, iv c3, rv b8, rv b149, rv x155, iv (1 : Int32)] [(.int (1 : Int32))])) t → Steps p.tables e below (s₁.setTop (entryFrame m #[(.int p0), (.int p1), (.int p2), (.int p3), (.int p4)] maxLocals)) t := by
          intro t kt
          refine pre181 _ ?_
          show Steps p.tables e below (T180.setTop (mkF m 399 #[iv p0, iv p1, iv p2, iv p3, iv p4, iv mm, iv tA, iv tB, iv tT, iv c0, iv c1, iv c2, iv c3, rv b8, rv b149, rv x155, iv (1 : Int32)] [(.ref b149)])) _
          refine st183.trans ?_
          show Steps p.tables e below (T183.setTop (mkF m 402 #[iv p0, iv p1, iv p2, iv p3, iv p4, iv mm, iv tA, iv tB, iv tT, iv c0, iv c1, iv c2, iv c3, rv b8, rv b149, rv x155, iv (1 : Int32)] [(.int (0 : Int32))])) _
          refine XS.ifNo X183.here hx rfl (hb hby at_402) rfl ((if0 _ _).trans (teq (by decide)).2) ?_
          refine XS.iconst X183.here hx rfl (hb hby at_405) ?_
          refine XS.goto X183.here hx rfl (pc0 := 406) (pc' := 410) rfl (hb hby at_406) (by decide) (by decide) ?_
          refine XS.istore X183.here hx rfl (hb hby at_410) rfl (l' := #[iv p0, iv p1, iv p2, iv p3, iv p4, iv mm, iv tA, iv tB, iv tT, iv c0, iv c1, iv c2, iv c3, rv b8, rv b149, rv x155, iv (1 : Int32)]) rfl ?_
          refine XS.iload X183.here hx rfl (hb hby at_412) rfl ?_
          exact kt
        obtain ⟨fs, hr, hrun, hended, hRW⟩ := Jvm.Stand.leaveW (s := s) (vm₁ := T180.vm) X183 hS180 (by rw [hh183]; exact (Nat.le_refl _)) (v := some (.int (1 : Int32))) (fun h => by rw [Bd.returns] at h; cases h)
        refine ⟨_, _, pre184 _ ?_, hrun, hended, _, _, rfl, ?_, hRW.1, hRW.2.1, hRW.2.2.1, hRW.2.2.2.mono (by decide) (by decide)⟩
        · show Steps p.tables e below (T183.setTop (mkF m 414 #[iv p0, iv p1, iv p2, iv p3, iv p4, iv mm, iv tA, iv tB, iv tT, iv c0, iv c1, iv c2, iv c3, rv b8, rv b149, rv x155, iv (1 : Int32)] [(.int (1 : Int32))])) _
          exact retN X183 hx (t := .boolean) Bd.returns (by simp) (hb hby at_414) hr
        · show Q0 Z p0 p1 p2 p3 p4 h0 n0 _ T183.heap _
          rw [hh183]
          exact ⟨rfl, N183⟩
set_option maxRecDepth 65536 in
set_option maxHeartbeats 40000000 in
theorem comes_1 {Post : Tables → Env → Array Value → State → Outcome → State → Prop} (hpost : ∀ tb e args s v u, (limb_1_1.after args s (.returned v) u = true ∧ limb_1_2.after args s (.returned v) u = true ∧ True) → ReturnedEndW s (.returned v) u (Jvm.fieldLocs frame_1_writes args s ++ Jvm.arrayLocs frame_1_arrays args s ++ Jvm.staticLocs frame_1_statics s) 24 2176 → Post tb e args s (.returned v) u) :
    ArmFor flags0 classFile x code maxLocals ret World_1 tables_1 room_1 Calls_1 rest_1 Pre_1 Post := by
  intro l hfl _ _ p e ha hc hk s m args below hf hA hF happ hP
  obtain ⟨hcalls, hrest, hpre⟩ := hP
  obtain ⟨-, -, -, hnamed, -, -, -, hat⟩ := (Spec.applies_iff hf).mp happ
  obtain ⟨hg, hn⟩ := and_e (Cond.before_iff.mp (show (Jvm.Cond.and given_1 narrow_1).before args s = true from hpre))
  obtain ⟨gg1, gg2⟩ := and_e hg
  obtain ⟨gg3, gg4⟩ := and_e gg2
  obtain ⟨gg5, gg6⟩ := and_e gg4
  obtain ⟨gg7, gg8⟩ := and_e gg6
  obtain ⟨gg9, gg10⟩ := and_e gg8
  obtain ⟨w0, w1, w2, w3, w4, rfl⟩ : ∃ w0 w1 w2 w3 w4 : Value, args = #[w0, w1, w2, w3, w4] := by
    have hs : args.size = 5 := by simpa [Cond.value, given_1] using gg1
    obtain ⟨L⟩ := args
    match L, hs with
    | [w0, w1, w2, w3, w4], _ => exact ⟨w0, w1, w2, w3, w4, rfl⟩
  have hw := fun d (hd : d ∈ tables_1) => atoms_spec (ws := Jvm.Cond.code x code maxLocals ret :: tables_1) hat d (List.mem_cons_of_mem _ hd)
  have hfit : Fit s := fun {y c} hc i hi => by
    obtain ⟨ha, rfl⟩ := Array.getElem?_eq_some_iff.mp hc
    have q := List.all_eq_true.mp ((Array.all_eq_true_iff_forall_mem.mp hF) _ (Array.getElem_mem ha)) i (List.mem_range.mpr hi)
    simpa [Array.getElem?_eq_getElem hi] using q
  obtain ⟨i0, ei0⟩ := is_v gg3
  obtain rfl : w0 = (.int i0) := Option.some.inj ei0
  obtain ⟨i1, ei1⟩ := is_v gg5
  obtain rfl : w1 = (.int i1) := Option.some.inj ei1
  obtain ⟨i2, ei2⟩ := is_v gg7
  obtain rfl : w2 = (.int i2) := Option.some.inj ei2
  obtain ⟨i3, ei3⟩ := is_v gg9
  obtain rfl : w3 = (.int i3) := Option.some.inj ei3
  obtain ⟨i4, ei4⟩ := is_v gg10
  obtain rfl : w4 = (.int i4) := Option.some.inj ei4
  obtain ⟨n, o, h1, h2, h3, _, L, rfl, ⟨rfl, N⟩, hq⟩ := rm0 l s _ hw tables_1 i0 i1 i2 i3 i4 s.heap s.heap.size (Nat.le_refl _) p e ha hc hk s m _ below hf ((Spec.applies_iff_loose hf).mp happ).1 ⟨rfl, State.Warmed39.refl s, rfl⟩ trivial
  refine ⟨n, _, h1, h2, h3, hpost _ _ _ _ _ _ ⟨Cond.after_iff.mpr rfl, Cond.after_iff.mpr (eq_i res_at (Term.int_eval (1)) rfl), trivial⟩ ⟨hq.1, hq.2.1, hq.2.2.1, (hq.2.2.2.sift fun y hy => Or.inr (N y hy)).mono (by decide) (by decide)⟩⟩
theorem main_1_1 : Claimed_1_1 := comes_1 fun _ _ _ _ _ _ h hF => ⟨h.1, hF⟩
theorem main_1_2 : Claimed_1_2 := comes_1 fun _ _ _ _ _ _ h hF => ⟨h.2.1, hF⟩
end Jvm.Pilot.@@N@@
namespace Jvm.Pilot.@@N@@
open Jvm Jvm.ClassFile Sem Op Lib Jvm.Free Jvm.Stand Jvm.Pilot.@@N@@.Jvm.D
/-! MADE BY PROGRAM (witnessworld.py) out of the Statement's table words and the real class files: 17 classes; the members and pool entries that the words name. The judged class is class 1, her method 2. -/
namespace start1
open Jvm.ClassFile
def u (s : String) : CpInfo := .utf8 (stringToUtf16 s)
/-- a pool by its gaps: so many unusable entries, then the entry; so many at the end -/
def gap : Nat → List CpInfo → List CpInfo
  | 0, r => r
  | n + 1, r => .unusable :: gap n r
def poolList (es : List (Nat × CpInfo)) (last : Nat) : List CpInfo := es.foldr (fun e r => gap e.1 (e.2 :: r)) (gap last [])
def pool (es : List (Nat × CpInfo)) (last : Nat) : Array CpInfo := ⟨poolList es last⟩
def fileOf (pool : Array CpInfo) (this : Nat) (attrs : Array Attribute := #[]) (ms : Array MethodInfo := #[]) (fl : Nat := 33) (sup : Nat := 0) (ifs : Array Nat := #[]) (fds : Array FieldInfo := #[]) : ClassFile where
  minorVersion := 0
  majorVersion := 65
  constantPool := pool
  accessFlags := fl
  thisClass := this
  superClass := sup
  interfaces := ifs
  fields := fds
  methods := ms
  attributes := attrs
def plain (name : String) (sup : Option ClassId) : Class where
  name := name
  kind := .ordinary
  loader := none
  accessFlags := 33
  super := sup
  interfaces := #[]
  cf := none
  fields := #[]
  methods := #[]
  instanceTypes := #[]
  staticTypes := #[]
  resolved := #[]
  callSites := []
  init := .initialized
  statics := none
  mirror := none

def pool0 : Array CpInfo := pool [(5, u "<init>"), (0, u "()V"), (1, .class_ 10), (1, u "java/lang/Object")] 113

def k0c0 : Code := { maxStack := 0, maxLocals := 1, code := object_method_1_code, exceptionTable := #[], attributes := #[] }
def k0m0 : Method := { name := "<init>", desc := "()V", sig := { parameters := [], returnType := none }, accessFlags := 1, code := some k0c0 }
/-- java/lang/Object -/
def k0 : Class := { plain "java/lang/Object" none with
  accessFlags := 33
  interfaces := #[]
  cf := some (fileOf pool0 8 #[] #[{ accessFlags := 1, nameIndex := 5, descriptorIndex := 6, attributes := #[] }] 33 0 #[] #[])
  fields := #[]
  methods := #[k0m0]
  instanceTypes := #[]
  staticTypes := #[]
  resolved := Array.replicate 124 none
  statics := none }

def pool1 : Array CpInfo := pool [(2, .class_ 4), (1, u "java/lang/Object"), (0, u "<init>"), (0, u "()V"), (0, .methodref 8 9), (0, .class_ 10), (0, .nameAndType 11 12), (0, u "com/example/fair_witness/fairwitness/attestation/DerReaderHasMorePinLaw"), (0, u "tag"), (0, u "(I)I"), (0, .class_ 14), (0, u "com/example/fair_witness/fairwitness/attestation/DerReader"), (0, .methodref 13 16), (0, .nameAndType 5 17), (0, u "([B)V"), (0, .methodref 13 19), (0, .nameAndType 20 21), (0, u "readSequence"), (0, u "()Lcom/example/fair_witness/fairwitness/attestation/DerReader;"), (0, .methodref 13 23), (0, .nameAndType 24 25), (0, u "hasMore"), (0, u "()Z"), (0, .methodref 13 27), (0, .nameAndType 28 29), (0, u "readElement"), (0, u "()[B"), (3, u "law"), (0, u "(IIIII)Z")] 7

def k1m0 : Method := { name := "<init>", desc := "()V", sig := { parameters := [], returnType := none }, accessFlags := 1, code := none }
def k1c1 : Code := { maxStack := 2, maxLocals := 2, code := method_2_code, exceptionTable := #[], attributes := #[] }
def k1m1 : Method := { name := "tag", desc := "(I)I", sig := { parameters := [.int], returnType := some .int }, accessFlags := 10, code := some k1c1 }
def k1c2 : Code := { maxStack := 3, maxLocals := 17, code := code, exceptionTable := #[], attributes := #[] }
def k1m2 : Method := { name := "law", desc := "(IIIII)Z", sig := { parameters := [.int, .int, .int, .int, .int], returnType := some .boolean }, accessFlags := 9, code := some k1c2 }
/-- com/example/fair_witness/fairwitness/attestation/DerReaderHasMorePinLaw -/
def k1 : Class := { plain "com/example/fair_witness/fairwitness/attestation/DerReaderHasMorePinLaw" (some 0) with
  accessFlags := 49
  interfaces := #[]
  cf := some (fileOf pool1 8 #[] #[{ accessFlags := 1, nameIndex := 5, descriptorIndex := 6, attributes := #[] }, { accessFlags := 10, nameIndex := 11, descriptorIndex := 12, attributes := #[] }, { accessFlags := 9, nameIndex := 33, descriptorIndex := 34, attributes := #[] }] 49 2 #[] #[])
  fields := #[]
  methods := #[k1m0, k1m1, k1m2]
  instanceTypes := #[]
  staticTypes := #[]
  resolved := Array.replicate 42 none
  statics := none }

def pool2 : Array CpInfo := pool [(1, .methodref 2 3), (0, .class_ 4), (0, .nameAndType 5 6), (0, u "com/example/fair_witness/fairwitness/attestation/DerReader"), (0, u "<init>"), (0, u "([BII)V"), (0, .methodref 8 9), (0, .class_ 10), (0, .nameAndType 5 11), (0, u "java/lang/Object"), (0, u "()V"), (0, .fieldref 2 13), (0, .nameAndType 14 15), (0, u "bytes"), (0, u "[B"), (0, .fieldref 2 17), (0, .nameAndType 18 19), (0, u "position"), (0, u "I"), (0, .fieldref 2 21), (0, .nameAndType 22 19), (0, u "end"), (0, .string 24), (0, u "SEQUENCE"), (0, .methodref 2 26), (0, .nameAndType 27 28), (0, u "readHeader"), (0, u "(ILjava/lang/String;)I"), (0, .methodref 2 30), (0, .nameAndType 31 32), (0, u "contentReader"), (0, u "(I)Lcom/example/fair_witness/fairwitness/attestation/DerReader;"), (1, u "SET"), (8, .methodref 2 44), (0, .nameAndType 45 28), (0, u "readLength"), (0, .string 47), (0, u "element"), (0, .methodref 2 49), (0, .nameAndType 50 28), (0, u "nextByte"), (0, .methodref 2 52), (0, .nameAndType 53 54), (0, u "readTagNumber"), (0, u "(IILjava/lang/String;)I"), (0, .methodref 56 57), (0, .class_ 58), (0, .nameAndType 59 60), (0, u "java/util/Arrays"), (0, u "copyOfRange"), (0, u "([BII)[B"), (5, u "()[B"), (39, u "INTEGER"), (29, u "ENUMERATED"), (16, u "BOOLEAN"), (13, u "NULL"), (12, .integer 16777215), (13, .long 128), (11, u "OCTET_STRING"), (5, u "EXPLICIT"), (1, u "CLASS_AND_FORM"), (1, u "HIGH_TAG_NUMBER"), (1, u "([B)V"), (2, u "hasMore"), (0, u "()Z"), (1, u "readSequence"), (0, u "()Lcom/example/fair_witness/fairwitness/attestation/DerReader;"), (4, u "readElement")] 54

def k2c0 : Code := { maxStack := 4, maxLocals := 2, code := prog_10_method_1_code, exceptionTable := #[], attributes := #[] }
def k2m0 : Method := { name := "<init>", desc := "([B)V", sig := { parameters := [(.array .byte)], returnType := none }, accessFlags := 0, code := some k2c0 }
def k2c1 : Code := { maxStack := 2, maxLocals := 4, code := prog_10_method_2_code, exceptionTable := #[], attributes := #[] }
def k2m1 : Method := { name := "<init>", desc := "([BII)V", sig := { parameters := [(.array .byte), .int, .int], returnType := none }, accessFlags := 2, code := some k2c1 }
def k2c2 : Code := { maxStack := 2, maxLocals := 1, code := prog_10_method_3_code, exceptionTable := #[], attributes := #[] }
def k2m2 : Method := { name := "hasMore", desc := "()Z", sig := { parameters := [], returnType := some .boolean }, accessFlags := 0, code := some k2c2 }
def k2c3 : Code := { maxStack := 4, maxLocals := 1, code := prog_10_method_4_code, exceptionTable := #[], attributes := #[] }
def k2m3 : Method := { name := "readSequence", desc := "()Lcom/example/fair_witness/fairwitness/attestation/DerReader;", sig := { parameters := [], returnType := some (.object "com/example/fair_witness/fairwitness/attestation/DerReader") }, accessFlags := 0, code := some k2c3 }
def k2c4 : Code := { maxStack := 4, maxLocals := 5, code := prog_10_method_8_code, exceptionTable := #[], attributes := #[] }
def k2m4 : Method := { name := "readElement", desc := "()[B", sig := { parameters := [], returnType := some (.array .byte) }, accessFlags := 0, code := some k2c4 }
def k2c5 : Code := { maxStack := 6, maxLocals := 3, code := prog_10_method_18_code, exceptionTable := #[], attributes := #[] }
def k2m5 : Method := { name := "contentReader", desc := "(I)Lcom/example/fair_witness/fairwitness/attestation/DerReader;", sig := { parameters := [.int], returnType := some (.object "com/example/fair_witness/fairwitness/attestation/DerReader") }, accessFlags := 2, code := some k2c5 }
def k2c6 : Code := { maxStack := 7, maxLocals := 5, code := prog_10_method_20_code, exceptionTable := #[], attributes := #[] }
def k2m6 : Method := { name := "readHeader", desc := "(ILjava/lang/String;)I", sig := { parameters := [.int, (.object "java/lang/String")], returnType := some .int }, accessFlags := 2, code := some k2c6 }
def k2c7 : Code := { maxStack := 3, maxLocals := 8, code := prog_10_method_22_code, exceptionTable := #[], attributes := #[] }
def k2m7 : Method := { name := "readTagNumber", desc := "(IILjava/lang/String;)I", sig := { parameters := [.int, .int, (.object "java/lang/String")], returnType := some .int }, accessFlags := 2, code := some k2c7 }
def k2c8 : Code := { maxStack := 8, maxLocals := 8, code := prog_10_method_23_code, exceptionTable := #[], attributes := #[] }
def k2m8 : Method := { name := "readLength", desc := "(ILjava/lang/String;)I", sig := { parameters := [.int, (.object "java/lang/String")], returnType := some .int }, accessFlags := 2, code := some k2c8 }
def k2c9 : Code := { maxStack := 5, maxLocals := 3, code := prog_10_method_24_code, exceptionTable := #[], attributes := #[] }
def k2m9 : Method := { name := "nextByte", desc := "(ILjava/lang/String;)I", sig := { parameters := [.int, (.object "java/lang/String")], returnType := some .int }, accessFlags := 2, code := some k2c9 }
/-- com/example/fair_witness/fairwitness/attestation/DerReader -/
def k2 : Class := { plain "com/example/fair_witness/fairwitness/attestation/DerReader" (some 0) with
  accessFlags := 48
  interfaces := #[]
  cf := some (fileOf pool2 2 #[] #[{ accessFlags := 0, nameIndex := 5, descriptorIndex := 218, attributes := #[] }, { accessFlags := 2, nameIndex := 5, descriptorIndex := 6, attributes := #[] }, { accessFlags := 0, nameIndex := 221, descriptorIndex := 222, attributes := #[] }, { accessFlags := 0, nameIndex := 224, descriptorIndex := 225, attributes := #[] }, { accessFlags := 0, nameIndex := 230, descriptorIndex := 66, attributes := #[] }, { accessFlags := 2, nameIndex := 31, descriptorIndex := 32, attributes := #[] }, { accessFlags := 2, nameIndex := 27, descriptorIndex := 28, attributes := #[] }, { accessFlags := 2, nameIndex := 53, descriptorIndex := 54, attributes := #[] }, { accessFlags := 2, nameIndex := 45, descriptorIndex := 28, attributes := #[] }, { accessFlags := 2, nameIndex := 50, descriptorIndex := 28, attributes := #[] }] 48 8 #[] #[{ accessFlags := 26, nameIndex := 153, descriptorIndex := 19, attributes := #[] }, { accessFlags := 26, nameIndex := 106, descriptorIndex := 19, attributes := #[] }, { accessFlags := 26, nameIndex := 206, descriptorIndex := 19, attributes := #[] }, { accessFlags := 26, nameIndex := 167, descriptorIndex := 19, attributes := #[] }, { accessFlags := 26, nameIndex := 136, descriptorIndex := 19, attributes := #[] }, { accessFlags := 26, nameIndex := 24, descriptorIndex := 19, attributes := #[] }, { accessFlags := 26, nameIndex := 34, descriptorIndex := 19, attributes := #[] }, { accessFlags := 26, nameIndex := 212, descriptorIndex := 19, attributes := #[] }, { accessFlags := 26, nameIndex := 214, descriptorIndex := 19, attributes := #[] }, { accessFlags := 26, nameIndex := 216, descriptorIndex := 19, attributes := #[] }, { accessFlags := 18, nameIndex := 14, descriptorIndex := 15, attributes := #[] }, { accessFlags := 18, nameIndex := 22, descriptorIndex := 19, attributes := #[] }, { accessFlags := 2, nameIndex := 18, descriptorIndex := 19, attributes := #[] }])
  fields := #[{ name := "BOOLEAN", type := .int, accessFlags := 26, slot := 0, constantValue := 0 }, { name := "INTEGER", type := .int, accessFlags := 26, slot := 1, constantValue := 0 }, { name := "OCTET_STRING", type := .int, accessFlags := 26, slot := 2, constantValue := 0 }, { name := "NULL", type := .int, accessFlags := 26, slot := 3, constantValue := 0 }, { name := "ENUMERATED", type := .int, accessFlags := 26, slot := 4, constantValue := 0 }, { name := "SEQUENCE", type := .int, accessFlags := 26, slot := 5, constantValue := 0 }, { name := "SET", type := .int, accessFlags := 26, slot := 6, constantValue := 0 }, { name := "EXPLICIT", type := .int, accessFlags := 26, slot := 7, constantValue := 0 }, { name := "CLASS_AND_FORM", type := .int, accessFlags := 26, slot := 8, constantValue := 0 }, { name := "HIGH_TAG_NUMBER", type := .int, accessFlags := 26, slot := 9, constantValue := 0 }, { name := "bytes", type := (.array .byte), accessFlags := 18, slot := 0, constantValue := 0 }, { name := "end", type := .int, accessFlags := 18, slot := 1, constantValue := 0 }, { name := "position", type := .int, accessFlags := 2, slot := 2, constantValue := 0 }]
  methods := #[k2m0, k2m1, k2m2, k2m3, k2m4, k2m5, k2m6, k2m7, k2m8, k2m9]
  instanceTypes := #[(.array .byte), .int, .int]
  staticTypes := #[.int, .int, .int, .int, .int, .int, .int, .int, .int, .int]
  resolved := Array.replicate 285 none
  statics := none }

def pool3 : Array CpInfo := pool [(1, .class_ 2), (0, u "java/io/Serializable"), (0, .class_ 4), (0, u "java/lang/Object")] 2

/-- java/io/Serializable -/
def k3 : Class := { plain "java/io/Serializable" (some 0) with
  accessFlags := 1537
  interfaces := #[]
  cf := some (fileOf pool3 1 #[] #[] 1537 3 #[] #[])
  fields := #[]
  methods := #[]
  instanceTypes := #[]
  staticTypes := #[]
  resolved := Array.replicate 7 none
  statics := none }

def pool4 : Array CpInfo := pool [(1, .class_ 2), (0, u "java/lang/Comparable"), (0, .class_ 4), (0, u "java/lang/Object")] 7

/-- java/lang/Comparable -/
def k4 : Class := { plain "java/lang/Comparable" (some 0) with
  accessFlags := 1537
  interfaces := #[]
  cf := some (fileOf pool4 1 #[] #[] 1537 3 #[] #[])
  fields := #[]
  methods := #[]
  instanceTypes := #[]
  staticTypes := #[]
  resolved := Array.replicate 12 none
  statics := none }

def pool5 : Array CpInfo := pool [(2, .class_ 4), (1, u "java/lang/CharSequence"), (42, .class_ 48), (0, u "java/lang/CharSequence$1CodePointIterator"), (10, .class_ 60), (0, u "java/lang/CharSequence$1CharIterator"), (5, .class_ 67), (0, u "java/lang/Object")] 63

/-- java/lang/CharSequence -/
def k5 : Class := { plain "java/lang/CharSequence" (some 0) with
  accessFlags := 1537
  interfaces := #[]
  cf := some (fileOf pool5 2 #[.nestMembers #[47, 59]] #[] 1537 66 #[] #[])
  fields := #[]
  methods := #[]
  instanceTypes := #[]
  staticTypes := #[]
  resolved := Array.replicate 131 none
  statics := none }

def pool6 : Array CpInfo := pool [(1, .class_ 2), (0, u "java/lang/constant/Constable"), (0, .class_ 4), (0, u "java/lang/Object")] 6

/-- java/lang/constant/Constable -/
def k6 : Class := { plain "java/lang/constant/Constable" (some 0) with
  accessFlags := 1537
  interfaces := #[]
  cf := some (fileOf pool6 1 #[] #[] 1537 3 #[] #[])
  fields := #[]
  methods := #[]
  instanceTypes := #[]
  staticTypes := #[]
  resolved := Array.replicate 11 none
  statics := none }

def pool7 : Array CpInfo := pool [(1, .class_ 2), (0, u "java/lang/constant/ConstantDesc"), (0, .class_ 4), (0, u "java/lang/Object")] 32

/-- java/lang/constant/ConstantDesc -/
def k7 : Class := { plain "java/lang/constant/ConstantDesc" (some 0) with
  accessFlags := 1537
  interfaces := #[]
  cf := some (fileOf pool7 1 #[] #[] 1537 3 #[] #[])
  fields := #[]
  methods := #[]
  instanceTypes := #[]
  staticTypes := #[]
  resolved := Array.replicate 37 none
  statics := none }

def pool8 : Array CpInfo := pool [(2, .class_ 4), (1, u "java/lang/Object"), (0, u "<init>"), (0, u "()V"), (3, .class_ 12), (1, u "java/lang/String"), (0, u "value"), (0, u "[B"), (2, u "coder"), (0, u "B"), (2, u "hash"), (0, u "I"), (2, u "hashIsZero"), (0, u "Z"), (13, u "COMPACT_STRINGS"), (534, .class_ 576), (0, u "java/lang/CharSequence"), (22, u "CASE_INSENSITIVE_ORDER"), (0, u "Ljava/util/Comparator;"), (500, u "serialPersistentFields"), (0, u "[Ljava/io/ObjectStreamField;"), (0, .class_ 1104), (0, u "java/lang/String$CaseInsensitiveComparator"), (1, .class_ 1107), (0, u "java/io/Serializable"), (0, .class_ 1109), (0, u "java/lang/Comparable"), (0, .class_ 1111), (0, u "java/lang/constant/Constable"), (0, .class_ 1113), (0, u "java/lang/constant/ConstantDesc"), (2, u "serialVersionUID"), (0, u "J"), (3, u "REPL"), (0, u "C"), (2, u "LATIN1"), (1, u "UTF16")] 323

def k8m0 : Method := { name := "<init>", desc := "()V", sig := { parameters := [], returnType := none }, accessFlags := 1, code := none }
/-- java/lang/String -/
def k8 : Class := { plain "java/lang/String" (some 0) with
  accessFlags := 49
  interfaces := #[3, 4, 5, 6, 7]
  cf := some (fileOf pool8 10 #[.nestMembers #[1103]] #[{ accessFlags := 1, nameIndex := 5, descriptorIndex := 6, attributes := #[] }] 49 2 #[1106, 1108, 575, 1110, 1112] #[{ accessFlags := 18, nameIndex := 13, descriptorIndex := 14, attributes := #[] }, { accessFlags := 18, nameIndex := 17, descriptorIndex := 18, attributes := #[] }, { accessFlags := 2, nameIndex := 21, descriptorIndex := 22, attributes := #[] }, { accessFlags := 2, nameIndex := 25, descriptorIndex := 26, attributes := #[] }, { accessFlags := 26, nameIndex := 1116, descriptorIndex := 1117, attributes := #[] }, { accessFlags := 24, nameIndex := 40, descriptorIndex := 26, attributes := #[] }, { accessFlags := 26, nameIndex := 1101, descriptorIndex := 1102, attributes := #[] }, { accessFlags := 26, nameIndex := 1121, descriptorIndex := 1122, attributes := #[] }, { accessFlags := 25, nameIndex := 599, descriptorIndex := 600, attributes := #[] }, { accessFlags := 24, nameIndex := 1125, descriptorIndex := 18, attributes := #[] }, { accessFlags := 24, nameIndex := 1127, descriptorIndex := 18, attributes := #[] }])
  fields := #[{ name := "value", type := (.array .byte), accessFlags := 18, slot := 0, constantValue := 0 }, { name := "coder", type := .byte, accessFlags := 18, slot := 1, constantValue := 0 }, { name := "hash", type := .int, accessFlags := 2, slot := 2, constantValue := 0 }, { name := "hashIsZero", type := .boolean, accessFlags := 2, slot := 3, constantValue := 0 }, { name := "serialVersionUID", type := .long, accessFlags := 26, slot := 0, constantValue := 0 }, { name := "COMPACT_STRINGS", type := .boolean, accessFlags := 24, slot := 1, constantValue := 0 }, { name := "serialPersistentFields", type := (.array (.object "java/io/ObjectStreamField")), accessFlags := 26, slot := 2, constantValue := 0 }, { name := "REPL", type := .char, accessFlags := 26, slot := 3, constantValue := 0 }, { name := "CASE_INSENSITIVE_ORDER", type := (.object "java/util/Comparator"), accessFlags := 25, slot := 4, constantValue := 0 }, { name := "LATIN1", type := .byte, accessFlags := 24, slot := 5, constantValue := 0 }, { name := "UTF16", type := .byte, accessFlags := 24, slot := 6, constantValue := 0 }]
  methods := #[k8m0]
  instanceTypes := #[(.array .byte), .byte, .int, .boolean]
  staticTypes := #[.long, .boolean, (.array (.object "java/io/ObjectStreamField")), .char, (.object "java/util/Comparator"), .byte, .byte]
  resolved := Array.replicate 1451 none
  statics := none }

def pool9 : Array CpInfo := pool [(2, .class_ 4), (1, u "java/lang/Object"), (0, u "<init>"), (0, u "()V"), (7, .class_ 16), (1, u "java/util/Arrays"), (57, .class_ 76), (1, u "java/util/Arrays$NaturalOrder"), (36, .class_ 115), (1, u "java/util/Arrays$LegacyMergeSort"), (1, u "Z"), (21, u "copyOfRange"), (10, .methodref 151 152), (0, .class_ 153), (0, .nameAndType 154 155), (0, u "java/lang/System"), (0, u "arraycopy"), (0, u "(Ljava/lang/Object;ILjava/lang/Object;II)V"), (148, .methodref 305 306), (0, .class_ 307), (0, .nameAndType 308 309), (0, u "java/lang/Math"), (0, u "min"), (0, u "(II)I"), (29, .methodref 14 340), (0, .nameAndType 341 342), (0, u "copyOfRangeByte"), (0, u "([BII)[B"), (0, .methodref 14 344), (0, .nameAndType 345 346), (0, u "checkLength"), (0, u "(II)V"), (28, .class_ 376), (0, u "java/util/Arrays$ArrayList"), (68, u "$assertionsDisabled"), (269, u "MIN_ARRAY_SORT_GRAN"), (0, u "I"), (2, u "INSERTIONSORT_THRESHOLD"), (255, .class_ 976), (0, u "java/util/Arrays$ArrayItr")] 52

def k9m0 : Method := { name := "<init>", desc := "()V", sig := { parameters := [], returnType := none }, accessFlags := 2, code := none }
def k9c1 : Code := { maxStack := 4, maxLocals := 2, code := jdk_65_method_131_code, exceptionTable := #[], attributes := #[] }
def k9m1 : Method := { name := "checkLength", desc := "(II)V", sig := { parameters := [.int, .int], returnType := none }, accessFlags := 10, code := some k9c1 }
def k9c2 : Code := { maxStack := 3, maxLocals := 3, code := jdk_65_method_132_code, exceptionTable := #[], attributes := #[] }
def k9m2 : Method := { name := "copyOfRange", desc := "([BII)[B", sig := { parameters := [(.array .byte), .int, .int], returnType := some (.array .byte) }, accessFlags := 9, code := some k9c2 }
def k9c3 : Code := { maxStack := 6, maxLocals := 5, code := jdk_65_method_133_code, exceptionTable := #[], attributes := #[] }
def k9m3 : Method := { name := "copyOfRangeByte", desc := "([BII)[B", sig := { parameters := [(.array .byte), .int, .int], returnType := some (.array .byte) }, accessFlags := 10, code := some k9c3 }
/-- java/util/Arrays -/
def k9 : Class := { plain "java/util/Arrays" (some 0) with
  accessFlags := 49
  interfaces := #[]
  cf := some (fileOf pool9 14 #[.nestMembers #[975, 375, 113, 74]] #[{ accessFlags := 2, nameIndex := 5, descriptorIndex := 6, attributes := #[] }, { accessFlags := 10, nameIndex := 345, descriptorIndex := 346, attributes := #[] }, { accessFlags := 9, nameIndex := 139, descriptorIndex := 342, attributes := #[] }, { accessFlags := 10, nameIndex := 341, descriptorIndex := 342, attributes := #[] }] 49 2 #[] #[{ accessFlags := 26, nameIndex := 715, descriptorIndex := 716, attributes := #[] }, { accessFlags := 26, nameIndex := 719, descriptorIndex := 716, attributes := #[] }, { accessFlags := 4120, nameIndex := 445, descriptorIndex := 117, attributes := #[] }])
  fields := #[{ name := "MIN_ARRAY_SORT_GRAN", type := .int, accessFlags := 26, slot := 0, constantValue := 0 }, { name := "INSERTIONSORT_THRESHOLD", type := .int, accessFlags := 26, slot := 1, constantValue := 0 }, { name := "$assertionsDisabled", type := .boolean, accessFlags := 4120, slot := 2, constantValue := 0 }]
  methods := #[k9m0, k9m1, k9m2, k9m3]
  instanceTypes := #[]
  staticTypes := #[.int, .int, .boolean]
  resolved := Array.replicate 1029 none
  statics := none }

def pool10 : Array CpInfo := pool [(1, .class_ 2), (0, u "java/lang/Math"), (1, .class_ 6), (1, u "java/lang/Object"), (0, u "<init>"), (0, u "()V"), (89, .class_ 100), (1, u "java/lang/Math$RandomNumberGeneratorHolder"), (71, u "negativeZeroFloatBits"), (0, u "J"), (2, u "negativeZeroDoubleBits"), (24, u "min"), (43, u "$assertionsDisabled"), (0, u "Z"), (88, u "(II)I"), (2, u "twoToTheDoubleScaleDown"), (0, u "D"), (4, u "twoToTheDoubleScaleUp"), (9, u "E"), (3, u "PI"), (2, u "TAU"), (2, u "DEGREES_TO_RADIANS"), (0, u "RADIANS_TO_DEGREES")] 94

def k10m0 : Method := { name := "<init>", desc := "()V", sig := { parameters := [], returnType := none }, accessFlags := 2, code := none }
def k10c1 : Code := { maxStack := 2, maxLocals := 2, code := jdk_29_method_69_code, exceptionTable := #[], attributes := #[] }
def k10m1 : Method := { name := "min", desc := "(II)I", sig := { parameters := [.int, .int], returnType := some .int }, accessFlags := 9, code := some k10c1 }
/-- java/lang/Math -/
def k10 : Class := { plain "java/lang/Math" (some 0) with
  accessFlags := 49
  interfaces := #[]
  cf := some (fileOf pool10 1 #[.nestMembers #[98]] #[{ accessFlags := 2, nameIndex := 7, descriptorIndex := 8, attributes := #[] }, { accessFlags := 9, nameIndex := 201, descriptorIndex := 335, attributes := #[] }] 49 4 #[] #[{ accessFlags := 25, nameIndex := 354, descriptorIndex := 339, attributes := #[] }, { accessFlags := 25, nameIndex := 358, descriptorIndex := 339, attributes := #[] }, { accessFlags := 25, nameIndex := 361, descriptorIndex := 339, attributes := #[] }, { accessFlags := 26, nameIndex := 364, descriptorIndex := 339, attributes := #[] }, { accessFlags := 26, nameIndex := 365, descriptorIndex := 339, attributes := #[] }, { accessFlags := 26, nameIndex := 172, descriptorIndex := 173, attributes := #[] }, { accessFlags := 26, nameIndex := 176, descriptorIndex := 173, attributes := #[] }, { accessFlags := 8, nameIndex := 344, descriptorIndex := 339, attributes := #[] }, { accessFlags := 8, nameIndex := 338, descriptorIndex := 339, attributes := #[] }, { accessFlags := 4120, nameIndex := 245, descriptorIndex := 246, attributes := #[] }])
  fields := #[{ name := "E", type := .double, accessFlags := 25, slot := 0, constantValue := 0 }, { name := "PI", type := .double, accessFlags := 25, slot := 1, constantValue := 0 }, { name := "TAU", type := .double, accessFlags := 25, slot := 2, constantValue := 0 }, { name := "DEGREES_TO_RADIANS", type := .double, accessFlags := 26, slot := 3, constantValue := 0 }, { name := "RADIANS_TO_DEGREES", type := .double, accessFlags := 26, slot := 4, constantValue := 0 }, { name := "negativeZeroFloatBits", type := .long, accessFlags := 26, slot := 5, constantValue := 0 }, { name := "negativeZeroDoubleBits", type := .long, accessFlags := 26, slot := 6, constantValue := 0 }, { name := "twoToTheDoubleScaleUp", type := .double, accessFlags := 8, slot := 7, constantValue := 0 }, { name := "twoToTheDoubleScaleDown", type := .double, accessFlags := 8, slot := 8, constantValue := 0 }, { name := "$assertionsDisabled", type := .boolean, accessFlags := 4120, slot := 9, constantValue := 0 }]
  methods := #[k10m0, k10m1]
  instanceTypes := #[]
  staticTypes := #[.double, .double, .double, .double, .double, .long, .long, .double, .double, .boolean]
  resolved := Array.replicate 460 none
  statics := none }

def pool11 : Array CpInfo := pool [(2, .class_ 4), (1, u "java/lang/Object"), (0, u "<init>"), (0, u "()V"), (1, .class_ 10), (1, u "java/lang/System"), (0, u "allowSecurityManager"), (0, u "I"), (16, u "cons"), (0, u "Ljava/io/Console;"), (77, .class_ 110), (1, u "java/lang/System$CallersHolder"), (43, u "initialErrStream"), (0, u "Ljava/io/PrintStream;"), (19, u "security"), (0, u "Ljava/lang/SecurityManager;"), (31, .class_ 209), (0, u "java/lang/System$1"), (7, u "props"), (0, u "Ljava/util/Properties;"), (2, u "lineSeparator"), (0, u "Ljava/lang/String;"), (96, .class_ 321), (1, u "java/lang/System$LoggerFinder"), (5, .class_ 328), (0, u "java/lang/System$Logger"), (67, u "err"), (2, u "out"), (91, u "notSupportedJnuEncoding"), (15, u "in"), (17, u "initialIn"), (0, u "Ljava/io/InputStream;"), (35, u "bootLayer"), (0, u "Ljava/lang/ModuleLayer;"), (99, .class_ 664), (0, u "java/lang/System$2"), (9, u "NEVER"), (2, u "MAYBE"), (49, u "arraycopy"), (0, u "(Ljava/lang/Object;ILjava/lang/Object;II)V"), (72, .class_ 802), (0, u "java/lang/System$Logger$Level")] 31

def k11m0 : Method := { name := "<init>", desc := "()V", sig := { parameters := [], returnType := none }, accessFlags := 2, code := none }
def k11m1 : Method := { name := "arraycopy", desc := "(Ljava/lang/Object;ILjava/lang/Object;II)V", sig := { parameters := [(.object "java/lang/Object"), .int, (.object "java/lang/Object"), .int, .int], returnType := none }, accessFlags := 265, code := none }
/-- java/lang/System -/
def k11 : Class := { plain "java/lang/System" (some 0) with
  accessFlags := 49
  interfaces := #[]
  cf := some (fileOf pool11 8 #[.nestMembers #[319, 327, 801, 108, 663, 208]] #[{ accessFlags := 2, nameIndex := 5, descriptorIndex := 6, attributes := #[] }, { accessFlags := 265, nameIndex := 727, descriptorIndex := 728, attributes := #[] }] 49 2 #[] #[{ accessFlags := 25, nameIndex := 507, descriptorIndex := 526, attributes := #[] }, { accessFlags := 25, nameIndex := 399, descriptorIndex := 155, attributes := #[] }, { accessFlags := 25, nameIndex := 396, descriptorIndex := 155, attributes := #[] }, { accessFlags := 10, nameIndex := 525, descriptorIndex := 526, attributes := #[] }, { accessFlags := 26, nameIndex := 674, descriptorIndex := 12, attributes := #[] }, { accessFlags := 26, nameIndex := 677, descriptorIndex := 12, attributes := #[] }, { accessFlags := 10, nameIndex := 11, descriptorIndex := 12, attributes := #[] }, { accessFlags := 74, nameIndex := 175, descriptorIndex := 176, attributes := #[] }, { accessFlags := 10, nameIndex := 491, descriptorIndex := 222, attributes := #[] }, { accessFlags := 74, nameIndex := 29, descriptorIndex := 30, attributes := #[] }, { accessFlags := 74, nameIndex := 154, descriptorIndex := 155, attributes := #[] }, { accessFlags := 10, nameIndex := 217, descriptorIndex := 218, attributes := #[] }, { accessFlags := 10, nameIndex := 221, descriptorIndex := 222, attributes := #[] }, { accessFlags := 8, nameIndex := 562, descriptorIndex := 563, attributes := #[] }])
  fields := #[{ name := "in", type := (.object "java/io/InputStream"), accessFlags := 25, slot := 0, constantValue := 0 }, { name := "out", type := (.object "java/io/PrintStream"), accessFlags := 25, slot := 1, constantValue := 0 }, { name := "err", type := (.object "java/io/PrintStream"), accessFlags := 25, slot := 2, constantValue := 0 }, { name := "initialIn", type := (.object "java/io/InputStream"), accessFlags := 10, slot := 3, constantValue := 0 }, { name := "NEVER", type := .int, accessFlags := 26, slot := 4, constantValue := 0 }, { name := "MAYBE", type := .int, accessFlags := 26, slot := 5, constantValue := 0 }, { name := "allowSecurityManager", type := .int, accessFlags := 10, slot := 6, constantValue := 0 }, { name := "security", type := (.object "java/lang/SecurityManager"), accessFlags := 74, slot := 7, constantValue := 0 }, { name := "notSupportedJnuEncoding", type := (.object "java/lang/String"), accessFlags := 10, slot := 8, constantValue := 0 }, { name := "cons", type := (.object "java/io/Console"), accessFlags := 74, slot := 9, constantValue := 0 }, { name := "initialErrStream", type := (.object "java/io/PrintStream"), accessFlags := 74, slot := 10, constantValue := 0 }, { name := "props", type := (.object "java/util/Properties"), accessFlags := 10, slot := 11, constantValue := 0 }, { name := "lineSeparator", type := (.object "java/lang/String"), accessFlags := 10, slot := 12, constantValue := 0 }, { name := "bootLayer", type := (.object "java/lang/ModuleLayer"), accessFlags := 8, slot := 13, constantValue := 0 }]
  methods := #[k11m0, k11m1]
  instanceTypes := #[]
  staticTypes := #[(.object "java/io/InputStream"), (.object "java/io/PrintStream"), (.object "java/io/PrintStream"), (.object "java/io/InputStream"), .int, .int, .int, (.object "java/lang/SecurityManager"), (.object "java/lang/String"), (.object "java/io/Console"), (.object "java/io/PrintStream"), (.object "java/util/Properties"), (.object "java/lang/String"), (.object "java/lang/ModuleLayer")]
  resolved := Array.replicate 834 none
  statics := none }

def pool12 : Array CpInfo := pool [(1, u "java/lang/Cloneable"), (0, .class_ 1), (0, u "java/lang/Object"), (0, .class_ 3)] 3

/-- java/lang/Cloneable -/
def k12 : Class := { plain "java/lang/Cloneable" (some 0) with
  accessFlags := 1537
  interfaces := #[]
  cf := some (fileOf pool12 2 #[] #[] 1537 4 #[] #[])
  fields := #[]
  methods := #[]
  instanceTypes := #[]
  staticTypes := #[]
  resolved := Array.replicate 8 none
  statics := none }

/-- the primitive byte -/
def k13 : Class := { plain "byte" none with kind := .primitive 'B', accessFlags := 0x411 }
/-- [B -/
def k14 : Class := { plain "[B" (some 0) with kind := .array 13 .byte, interfaces := #[12, 3], accessFlags := 1041 }

/-- the primitive int -/
def k15 : Class := { plain "int" none with kind := .primitive 'I', accessFlags := 0x411 }
/-- [I -/
def k16 : Class := { plain "[I" (some 0) with kind := .array 15 .int, interfaces := #[12, 3], accessFlags := 1041 }

def heap : Heap := #[]
def classes : Array Class := #[k0, k1, k2, k3, k4, k5, k6, k7, k8, k9, k10, k11, k12, k13, k14, k15, k16]
def interned : List (Array UInt16 × Addr) := []
def slotsUsed : Nat := 0
def theMethod : MethodId := ⟨1, 2⟩
def args0 : Array Value := #[.int 3, .int 5, .int 6, .int 7, .int 8]
def aboutOver (below : List Frame) : State where
  vm := { classes := classes, interned := interned.toArray }
  heap := heap
  slotsUsed := slotsUsed
  threads := #[{ frames := .invoking theMethod args0 :: below }]
def below0 : List Frame := [.native { method := ⟨0, 0⟩, args := #[] }]
def about1 : State := aboutOver below0
def p0 : Program := .bare "" "" ""
def e0 : Env := launch0.env 0 0 0
theorem w_frames : about1.frames = Frame.invoking theMethod args0 :: below0 := rfl
set_option maxRecDepth 65536 in
theorem w_args : argsFit about1.vm theMethod args0 = true := by decide +kernel
set_option maxRecDepth 65536 in
theorem w_heap : heapFits about1 = true := by decide +kernel
set_option maxRecDepth 65536 in
theorem w_runnable : about1.curStatus? = some .runnable := by decide +kernel
set_option maxRecDepth 65536 in
theorem w_alone : about1.alone = true := by decide +kernel
set_option maxRecDepth 65536 in
theorem w_named : about1.methodNamed? x = some theMethod := by decide +kernel
set_option maxRecDepth 65536 in
theorem w_hears : about1.hears theMethod below0 = true := by decide +kernel
set_option maxRecDepth 65536 in
theorem w_ripe : about1.ripe theMethod args0 below0 = true := by decide +kernel
theorem w_running : about1.status = .running := rfl
set_option maxRecDepth 65536 in
theorem w_room : about1.hasRoom e0.platform room_1 = true :=
  launch0.hasRoom_least _ room_1 (by decide +kernel) (by decide +kernel) (by decide +kernel) (by decide +kernel) (by decide +kernel) (by decide +kernel)
theorem allAtoms_all (ts : List Jvm.Cond) (a : Array Jvm.Value) (st : Jvm.State) : (allAtoms ts).before a st = ts.all (fun c => c.before a st) := by
  induction ts with
  | nil => rfl
  | cons c t ih =>
    show (Jvm.Cond.and c (allAtoms t)).before a st = _
    rw [Jvm.Cond.before_and, ih, List.all_cons]
def words1 : List Jvm.Cond := Jvm.Cond.code x code maxLocals ret :: tables_1
/-- a 'code' word, met by the world's own term for the bytes: nothing is compared byte by byte -/
theorem code_word {y : MethodName} {bytes : ByteArray} {mx : Nat} {rt : Option FieldType} {a : Array Value} {s : State} {m : MethodId} {meth : Method} {c : Code} (h1 : s.methodNamed? y = some m) (h2 : s.vm.method? m = some meth) (h3 : meth.code = some c) (h4 : c.code = bytes)
    (h5 : (c.maxLocals == mx && c.exceptionTable.isEmpty && decide (c.maxStack ≤ mostOperands) && decide (meth.sig.returnType = rt) && !meth.locks && decide (parseMethodDescriptor y.desc = some meth.sig)) = true) : (Jvm.Cond.code y bytes mx rt).before a s = true := by
  simp only [Bool.and_eq_true, beq_iff_eq, Bool.not_eq_true', decide_eq_true_eq] at h5
  obtain ⟨⟨⟨⟨⟨g1, g2⟩, g3⟩, g4⟩, g5⟩, g6⟩ := h5
  simp [Cond.before, Cond.holds, Cond.value, h1, h2, h3, h4, g1, g2, g3, g4, g5, g6]
def isCode : Jvm.Cond → Bool
  | .code _ _ _ _ => true
  | _ => false
theorem all_split {L : List Jvm.Cond} {P : Jvm.Cond → Bool} (h1 : L.all (fun c => isCode c || P c) = true) (h2 : ∀ c ∈ L.filter isCode, P c = true) : L.all P = true := by
  refine List.all_eq_true.mpr fun c hc => ?_
  have h := List.all_eq_true.mp h1 c hc
  rcases Bool.eq_false_or_eq_true (isCode c) with hi | hi
  · exact h2 c (List.mem_filter.mpr ⟨hc, hi⟩)
  · simpa [hi] using h
set_option maxRecDepth 65536 in
theorem w_c0 : (Jvm.Cond.code x code maxLocals ret).before args0 about1 = true := code_word (m := ⟨1, 2⟩) (meth := k1m2) (c := k1c2) (by decide +kernel) rfl rfl rfl (by decide +kernel)
set_option maxRecDepth 65536 in
theorem w_c1 : (Jvm.Cond.code ({ cls := "com/example/fair_witness/fairwitness/attestation/DerReaderHasMorePinLaw", name := "tag", desc := "(I)I" } : Jvm.MethodName) method_2_code (2 : Nat) (Option.some Jvm.ClassFile.FieldType.int)).before args0 about1 = true := code_word (m := ⟨1, 1⟩) (meth := k1m1) (c := k1c1) (by decide +kernel) rfl rfl rfl (by decide +kernel)
set_option maxRecDepth 65536 in
theorem w_c2 : (Jvm.Cond.code ({ cls := "com/example/fair_witness/fairwitness/attestation/DerReader", name := "<init>", desc := "([B)V" } : Jvm.MethodName) prog_10_method_1_code (2 : Nat) (Option.none : Option Jvm.ClassFile.FieldType)).before args0 about1 = true := code_word (m := ⟨2, 0⟩) (meth := k2m0) (c := k2c0) (by decide +kernel) rfl rfl rfl (by decide +kernel)
set_option maxRecDepth 65536 in
theorem w_c3 : (Jvm.Cond.code ({ cls := "com/example/fair_witness/fairwitness/attestation/DerReader", name := "<init>", desc := "([BII)V" } : Jvm.MethodName) prog_10_method_2_code (4 : Nat) (Option.none : Option Jvm.ClassFile.FieldType)).before args0 about1 = true := code_word (m := ⟨2, 1⟩) (meth := k2m1) (c := k2c1) (by decide +kernel) rfl rfl rfl (by decide +kernel)
set_option maxRecDepth 65536 in
theorem w_c4 : (Jvm.Cond.code ({ cls := "java/lang/Object", name := "<init>", desc := "()V" } : Jvm.MethodName) object_method_1_code (1 : Nat) (Option.none : Option Jvm.ClassFile.FieldType)).before args0 about1 = true := code_word (m := ⟨0, 0⟩) (meth := k0m0) (c := k0c0) (by decide +kernel) rfl rfl rfl (by decide +kernel)
set_option maxRecDepth 65536 in
theorem w_c5 : (Jvm.Cond.code ({ cls := "com/example/fair_witness/fairwitness/attestation/DerReader", name := "readSequence", desc := "()Lcom/example/fair_witness/fairwitness/attestation/DerReader;" } : Jvm.MethodName) prog_10_method_4_code (1 : Nat) (Option.some (Jvm.ClassFile.FieldType.object "com/example/fair_witness/fairwitness/attestation/DerReader"))).before args0 about1 = true := code_word (m := ⟨2, 3⟩) (meth := k2m3) (c := k2c3) (by decide +kernel) rfl rfl rfl (by decide +kernel)
set_option maxRecDepth 65536 in
theorem w_c6 : (Jvm.Cond.code ({ cls := "com/example/fair_witness/fairwitness/attestation/DerReader", name := "readHeader", desc := "(ILjava/lang/String;)I" } : Jvm.MethodName) prog_10_method_20_code (5 : Nat) (Option.some Jvm.ClassFile.FieldType.int)).before args0 about1 = true := code_word (m := ⟨2, 6⟩) (meth := k2m6) (c := k2c6) (by decide +kernel) rfl rfl rfl (by decide +kernel)
set_option maxRecDepth 65536 in
theorem w_c7 : (Jvm.Cond.code ({ cls := "com/example/fair_witness/fairwitness/attestation/DerReader", name := "nextByte", desc := "(ILjava/lang/String;)I" } : Jvm.MethodName) prog_10_method_24_code (3 : Nat) (Option.some Jvm.ClassFile.FieldType.int)).before args0 about1 = true := code_word (m := ⟨2, 9⟩) (meth := k2m9) (c := k2c9) (by decide +kernel) rfl rfl rfl (by decide +kernel)
set_option maxRecDepth 65536 in
theorem w_c8 : (Jvm.Cond.code ({ cls := "com/example/fair_witness/fairwitness/attestation/DerReader", name := "readLength", desc := "(ILjava/lang/String;)I" } : Jvm.MethodName) prog_10_method_23_code (8 : Nat) (Option.some Jvm.ClassFile.FieldType.int)).before args0 about1 = true := code_word (m := ⟨2, 8⟩) (meth := k2m8) (c := k2c8) (by decide +kernel) rfl rfl rfl (by decide +kernel)
set_option maxRecDepth 65536 in
theorem w_c9 : (Jvm.Cond.code ({ cls := "com/example/fair_witness/fairwitness/attestation/DerReader", name := "contentReader", desc := "(I)Lcom/example/fair_witness/fairwitness/attestation/DerReader;" } : Jvm.MethodName) prog_10_method_18_code (3 : Nat) (Option.some (Jvm.ClassFile.FieldType.object "com/example/fair_witness/fairwitness/attestation/DerReader"))).before args0 about1 = true := code_word (m := ⟨2, 5⟩) (meth := k2m5) (c := k2c5) (by decide +kernel) rfl rfl rfl (by decide +kernel)
set_option maxRecDepth 65536 in
theorem w_c10 : (Jvm.Cond.code ({ cls := "com/example/fair_witness/fairwitness/attestation/DerReader", name := "hasMore", desc := "()Z" } : Jvm.MethodName) prog_10_method_3_code (1 : Nat) (Option.some Jvm.ClassFile.FieldType.boolean)).before args0 about1 = true := code_word (m := ⟨2, 2⟩) (meth := k2m2) (c := k2c2) (by decide +kernel) rfl rfl rfl (by decide +kernel)
set_option maxRecDepth 65536 in
theorem w_c11 : (Jvm.Cond.code ({ cls := "com/example/fair_witness/fairwitness/attestation/DerReader", name := "readElement", desc := "()[B" } : Jvm.MethodName) prog_10_method_8_code (5 : Nat) (Option.some (Jvm.ClassFile.FieldType.array Jvm.ClassFile.FieldType.byte))).before args0 about1 = true := code_word (m := ⟨2, 4⟩) (meth := k2m4) (c := k2c4) (by decide +kernel) rfl rfl rfl (by decide +kernel)
set_option maxRecDepth 65536 in
theorem w_c12 : (Jvm.Cond.code ({ cls := "com/example/fair_witness/fairwitness/attestation/DerReader", name := "readTagNumber", desc := "(IILjava/lang/String;)I" } : Jvm.MethodName) prog_10_method_22_code (8 : Nat) (Option.some Jvm.ClassFile.FieldType.int)).before args0 about1 = true := code_word (m := ⟨2, 7⟩) (meth := k2m7) (c := k2c7) (by decide +kernel) rfl rfl rfl (by decide +kernel)
set_option maxRecDepth 65536 in
theorem w_c13 : (Jvm.Cond.code ({ cls := "java/util/Arrays", name := "copyOfRange", desc := "([BII)[B" } : Jvm.MethodName) jdk_65_method_132_code (3 : Nat) (Option.some (Jvm.ClassFile.FieldType.array Jvm.ClassFile.FieldType.byte))).before args0 about1 = true := code_word (m := ⟨9, 2⟩) (meth := k9m2) (c := k9c2) (by decide +kernel) rfl rfl rfl (by decide +kernel)
set_option maxRecDepth 65536 in
theorem w_c14 : (Jvm.Cond.code ({ cls := "java/util/Arrays", name := "copyOfRangeByte", desc := "([BII)[B" } : Jvm.MethodName) jdk_65_method_133_code (5 : Nat) (Option.some (Jvm.ClassFile.FieldType.array Jvm.ClassFile.FieldType.byte))).before args0 about1 = true := code_word (m := ⟨9, 3⟩) (meth := k9m3) (c := k9c3) (by decide +kernel) rfl rfl rfl (by decide +kernel)
set_option maxRecDepth 65536 in
theorem w_c15 : (Jvm.Cond.code ({ cls := "java/util/Arrays", name := "checkLength", desc := "(II)V" } : Jvm.MethodName) jdk_65_method_131_code (2 : Nat) (Option.none : Option Jvm.ClassFile.FieldType)).before args0 about1 = true := code_word (m := ⟨9, 1⟩) (meth := k9m1) (c := k9c1) (by decide +kernel) rfl rfl rfl (by decide +kernel)
set_option maxRecDepth 65536 in
theorem w_c16 : (Jvm.Cond.code ({ cls := "java/lang/Math", name := "min", desc := "(II)I" } : Jvm.MethodName) jdk_29_method_69_code (2 : Nat) (Option.some Jvm.ClassFile.FieldType.int)).before args0 about1 = true := code_word (m := ⟨10, 1⟩) (meth := k10m1) (c := k10c1) (by decide +kernel) rfl rfl rfl (by decide +kernel)
def codes1 : List Jvm.Cond := [Jvm.Cond.code x code maxLocals ret, Jvm.Cond.code ({ cls := "com/example/fair_witness/fairwitness/attestation/DerReaderHasMorePinLaw", name := "tag", desc := "(I)I" } : Jvm.MethodName) method_2_code (2 : Nat) (Option.some Jvm.ClassFile.FieldType.int), Jvm.Cond.code ({ cls := "com/example/fair_witness/fairwitness/attestation/DerReader", name := "<init>", desc := "([B)V" } : Jvm.MethodName) prog_10_method_1_code (2 : Nat) (Option.none : Option Jvm.ClassFile.FieldType), Jvm.Cond.code ({ cls := "com/example/fair_witness/fairwitness/attestation/DerReader", name := "<init>", desc := "([BII)V" } : Jvm.MethodName) prog_10_method_2_code (4 : Nat) (Option.none : Option Jvm.ClassFile.FieldType), Jvm.Cond.code ({ cls := "java/lang/Object", name := "<init>", desc := "()V" } : Jvm.MethodName) object_method_1_code (1 : Nat) (Option.none : Option Jvm.ClassFile.FieldType), Jvm.Cond.code ({ cls := "com/example/fair_witness/fairwitness/attestation/DerReader", name := "readSequence", desc := "()Lcom/example/fair_witness/fairwitness/attestation/DerReader;" } : Jvm.MethodName) prog_10_method_4_code (1 : Nat) (Option.some (Jvm.ClassFile.FieldType.object "com/example/fair_witness/fairwitness/attestation/DerReader")), Jvm.Cond.code ({ cls := "com/example/fair_witness/fairwitness/attestation/DerReader", name := "readHeader", desc := "(ILjava/lang/String;)I" } : Jvm.MethodName) prog_10_method_20_code (5 : Nat) (Option.some Jvm.ClassFile.FieldType.int), Jvm.Cond.code ({ cls := "com/example/fair_witness/fairwitness/attestation/DerReader", name := "nextByte", desc := "(ILjava/lang/String;)I" } : Jvm.MethodName) prog_10_method_24_code (3 : Nat) (Option.some Jvm.ClassFile.FieldType.int), Jvm.Cond.code ({ cls := "com/example/fair_witness/fairwitness/attestation/DerReader", name := "readLength", desc := "(ILjava/lang/String;)I" } : Jvm.MethodName) prog_10_method_23_code (8 : Nat) (Option.some Jvm.ClassFile.FieldType.int), Jvm.Cond.code ({ cls := "com/example/fair_witness/fairwitness/attestation/DerReader", name := "contentReader", desc := "(I)Lcom/example/fair_witness/fairwitness/attestation/DerReader;" } : Jvm.MethodName) prog_10_method_18_code (3 : Nat) (Option.some (Jvm.ClassFile.FieldType.object "com/example/fair_witness/fairwitness/attestation/DerReader")), Jvm.Cond.code ({ cls := "com/example/fair_witness/fairwitness/attestation/DerReader", name := "hasMore", desc := "()Z" } : Jvm.MethodName) prog_10_method_3_code (1 : Nat) (Option.some Jvm.ClassFile.FieldType.boolean), Jvm.Cond.code ({ cls := "com/example/fair_witness/fairwitness/attestation/DerReader", name := "readElement", desc := "()[B" } : Jvm.MethodName) prog_10_method_8_code (5 : Nat) (Option.some (Jvm.ClassFile.FieldType.array Jvm.ClassFile.FieldType.byte)), Jvm.Cond.code ({ cls := "com/example/fair_witness/fairwitness/attestation/DerReader", name := "readTagNumber", desc := "(IILjava/lang/String;)I" } : Jvm.MethodName) prog_10_method_22_code (8 : Nat) (Option.some Jvm.ClassFile.FieldType.int), Jvm.Cond.code ({ cls := "java/util/Arrays", name := "copyOfRange", desc := "([BII)[B" } : Jvm.MethodName) jdk_65_method_132_code (3 : Nat) (Option.some (Jvm.ClassFile.FieldType.array Jvm.ClassFile.FieldType.byte)), Jvm.Cond.code ({ cls := "java/util/Arrays", name := "copyOfRangeByte", desc := "([BII)[B" } : Jvm.MethodName) jdk_65_method_133_code (5 : Nat) (Option.some (Jvm.ClassFile.FieldType.array Jvm.ClassFile.FieldType.byte)), Jvm.Cond.code ({ cls := "java/util/Arrays", name := "checkLength", desc := "(II)V" } : Jvm.MethodName) jdk_65_method_131_code (2 : Nat) (Option.none : Option Jvm.ClassFile.FieldType), Jvm.Cond.code ({ cls := "java/lang/Math", name := "min", desc := "(II)I" } : Jvm.MethodName) jdk_29_method_69_code (2 : Nat) (Option.some Jvm.ClassFile.FieldType.int)]
set_option maxRecDepth 65536 in
theorem codes_eq : words1.filter isCode = codes1 := rfl
theorem w_codes : ∀ c ∈ words1.filter isCode, c.before args0 about1 = true := by
  rw [codes_eq]
  intro c hc
  simp only [codes1, List.mem_cons, List.not_mem_nil, or_false] at hc
  rcases hc with rfl | rfl | rfl | rfl | rfl | rfl | rfl | rfl | rfl | rfl | rfl | rfl | rfl | rfl | rfl | rfl | rfl
  · exact w_c0
  · exact w_c1
  · exact w_c2
  · exact w_c3
  · exact w_c4
  · exact w_c5
  · exact w_c6
  · exact w_c7
  · exact w_c8
  · exact w_c9
  · exact w_c10
  · exact w_c11
  · exact w_c12
  · exact w_c13
  · exact w_c14
  · exact w_c15
  · exact w_c16
set_option maxRecDepth 65536 in
theorem w_t1 : (words1.take 24).all (fun c => isCode c || c.before args0 about1) = true := by decide +kernel
set_option maxRecDepth 65536 in
theorem w_t2 : ((words1.drop 24).take 24).all (fun c => isCode c || c.before args0 about1) = true := by decide +kernel
set_option maxRecDepth 65536 in
theorem w_t3 : (((words1.drop 24).drop 24).take 24).all (fun c => isCode c || c.before args0 about1) = true := by decide +kernel
set_option maxRecDepth 65536 in
theorem w_t4 : (((words1.drop 24).drop 24).drop 24).all (fun c => isCode c || c.before args0 about1) = true := by decide +kernel
theorem w_tables : (allAtoms (Jvm.Cond.code x code maxLocals ret :: tables_1)).before args0 about1 = true := by
  rw [allAtoms_all]
  show words1.all (fun c => c.before args0 about1) = true
  refine all_split ?_ w_codes
  rw [← List.take_append_drop 24 words1, List.all_append, w_t1, ← List.take_append_drop 24 (words1.drop 24), List.all_append, w_t2, ← List.take_append_drop 24 ((words1.drop 24).drop 24), List.all_append, w_t3, w_t4]
  rfl
set_option maxRecDepth 65536 in
theorem w_case : (Jvm.Cond.and given_1 narrow_1).before args0 about1 = true := by decide +kernel
theorem w_applies : (headSpec (Jvm.Cond.code x code maxLocals ret :: tables_1) room_1).applies x e0.platform about1 = true :=
  (Spec.applies_iff w_frames).mpr ⟨w_running, w_runnable, w_alone, w_named, w_hears, w_ripe, w_room, w_tables⟩
theorem atStart : AtStart classFile x code maxLocals ret World_1 tables_1 room_1 Calls_1 rest_1 Pre_1 launch0 p0 e0 about1 theMethod args0 below0 :=
  ⟨lists_1, trivial, launch0.admits_env _ _ _, launch0.least_env, fairChoices_fair.cas, fairChoices_fair.clock, w_frames, w_args, w_heap, w_applies, trivial, trivial, w_case⟩
end start1
theorem witness_1 : WitnessClaimed_1 := ⟨start1.p0, start1.e0, start1.about1, start1.theMethod, start1.args0, start1.below0, start1.atStart⟩
end Jvm.Pilot.@@N@@
