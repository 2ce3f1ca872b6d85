import JvmDerived
import JvmDerived.Pilot.@@N@@Statement
import JvmDerived.Pilot.@@N@@Code
set_option linter.unusedVariables false
set_option linter.unusedSimpArgs false
namespace Jvm.RoadKit
open Sem ClassFile Op Lib Jvm.Stand Jvm.Free Jvm.LawKit
section New
variable {p : Program} {l : Launch} {e : Env} {R : Room} {s : State} {m : MethodId} {args : Array Value} {below : List Frame} {meth : Method} {c : Code} {T : State} {locs : List Loc} {cells slots : Nat}
theorem retI (X : Stand p l e R s m args below meth c T locs cells slots) (hx : p.tables.exec = Jvm.exec) {pc : Nat} {Ls : Array Slot} {z : Int32} {rest : List Value} (hret : meth.sig.returnType = some .int) (hd : decode c.code pc = .ok (.ireturn, 1)) {fs : List Frame}
    (hl : ∀ (f : JFrame) (acts : List Action), f.method = m → f.locked = none → f.entered = [] → (doReturn e (T.setTop f) acts (some (.int z))).1 = T.setFrames fs) : Steps p.tables e below (T.setTop (mkF m pc Ls (.int z :: rest))) (T.setFrames fs) := by
  have hm' : T.vm.method? m = some meth := X.method'
  have hn : narrow .int (.int z) = .int z := rfl
  show Steps p.tables e below (T.setTop { method := m, pc := pc, locals := Ls, stack := _ :: rest, locked := none }) _
  jvm_step X.here [X.here.top, hx, hd, hm', hret, hn]
  first | (intro acts; rw [hl _ acts rfl rfl rfl]) | rw [hl _ _ rfl rfl rfl]
  exact Steps.refl _
end New
end Jvm.RoadKit

namespace Jvm.Pilot.@@N@@
open Jvm Jvm.ClassFile Sem Op Lib Jvm.Free Jvm.Stand Jvm.LawKit Jvm.RoadKit Bundle Jvm.Pilot.@@N@@.Jvm.D
def own_flag (n : Int32) : Int32 := if (255 : Int32) < n then (if (65535 : Int32) < n then 0 else 16) else 8
def own_width (f : Int32) : Int32 := if (f &&& (8 : Int32)) = (0 : Int32) then (if (f &&& (16 : Int32)) = (0 : Int32) then 4 else 2) else 1
theorem own_law (n w ef : Int32)
    (hw : (n < (0 : Int32) ∧ w = (1 : Int32)) ∨ (¬ (n < (0 : Int32)) ∧ ((n.toUInt32 >>> ((8 : Int32) &&& 31).toUInt32).toInt32) = (0 : Int32) ∧ w = (1 : Int32)) ∨ (¬ (n < (0 : Int32)) ∧ ¬ (((n.toUInt32 >>> ((8 : Int32) &&& 31).toUInt32).toInt32) = (0 : Int32)) ∧ ((n.toUInt32 >>> ((16 : Int32) &&& 31).toUInt32).toInt32) = (0 : Int32) ∧ w = (2 : Int32)) ∨ (¬ (n < (0 : Int32)) ∧ ¬ (((n.toUInt32 >>> ((8 : Int32) &&& 31).toUInt32).toInt32) = (0 : Int32)) ∧ ¬ (((n.toUInt32 >>> ((16 : Int32) &&& 31).toUInt32).toInt32) = (0 : Int32)) ∧ w = (4 : Int32)))
    (he : (w = (1 : Int32) ∧ ef = (8 : Int32)) ∨ (¬ (w = (1 : Int32)) ∧ w = (2 : Int32) ∧ ef = (16 : Int32)) ∨ (¬ (w = (1 : Int32)) ∧ ¬ (w = (2 : Int32)) ∧ ef = (0 : Int32))) :
    own_flag n = ef ∧ own_width (own_flag n) = w := by
  have u8 := c_iushr n 8 8 (by decide) (by decide)
  have u16 := c_iushr n 16 16 (by decide) (by decide)
  have z0 : (0 : Int32).toInt = 0 := by decide
  have e8 : ((n.toUInt32 >>> ((8 : Int32) &&& 31).toUInt32).toInt32) = (0 : Int32) ↔ n.toInt % 4294967296 / ((2 ^ 8 : Nat) : Int) = 0 := by rw [← Int32.toInt_inj, u8, z0]
  have e16 : ((n.toUInt32 >>> ((16 : Int32) &&& 31).toUInt32).toInt32) = (0 : Int32) ↔ n.toInt % 4294967296 / ((2 ^ 16 : Nat) : Int) = 0 := by rw [← Int32.toInt_inj, u16, z0]
  rw [e8, e16, Int32.lt_iff_toInt_lt, z0] at hw
  have p8 : ((2 ^ 8 : Nat) : Int) = 256 := by decide
  have p16 : ((2 ^ 16 : Nat) : Int) = 65536 := by decide
  rw [p8, p16] at hw
  have r := rng32 n
  have f1 : n.toInt ≤ 255 → own_flag n = 8 := fun q => by
    unfold own_flag; rw [if_neg]; rw [Int32.lt_iff_toInt_lt]; have : (255 : Int32).toInt = 255 := by decide
    omega
  have f2 : 255 < n.toInt → n.toInt ≤ 65535 → own_flag n = 16 := fun q q' => by
    have k1 : (255 : Int32).toInt = 255 := by decide
    have k2 : (65535 : Int32).toInt = 65535 := by decide
    unfold own_flag; rw [if_pos, if_neg] <;> rw [Int32.lt_iff_toInt_lt] <;> omega
  have f3 : 65535 < n.toInt → own_flag n = 0 := fun q => by
    have k1 : (255 : Int32).toInt = 255 := by decide
    have k2 : (65535 : Int32).toInt = 65535 := by decide
    unfold own_flag; rw [if_pos, if_pos] <;> rw [Int32.lt_iff_toInt_lt] <;> omega
  rcases hw with ⟨c1, rfl⟩ | ⟨c1, c2, rfl⟩ | ⟨c1, c2, c3, rfl⟩ | ⟨c1, c2, c3, rfl⟩
  · have e : ef = 8 := by simpa using he
    subst e; rw [f1 (by omega)]; exact ⟨rfl, by decide⟩
  · have e : ef = 8 := by simpa using he
    subst e; rw [f1 (by omega)]; exact ⟨rfl, by decide⟩
  · have e : ef = 16 := by simpa using he
    subst e; rw [f2 (by omega) (by omega)]; exact ⟨rfl, by decide⟩
  · have e : ef = 0 := by simpa using he
    subst e; rw [f3 (by omega)]; exact ⟨rfl, by decide⟩
theorem pn0 : plainName "com/example/bytewright/bytewright/grid/ObjectLayout" = true := by first | (simp [plainName, overriddenIn]; done) | decide +kernel
theorem d1_0 : decode prog_52_method_3_code 0 = .ok (.iload_n 0, 1) := by decide +kernel
theorem d1_1 : decode prog_52_method_3_code 1 = .ok (.sipush 255, 3) := by decide +kernel
theorem d1_4 : decode prog_52_method_3_code 4 = .ok (.if_icmp .gt 6, 3) := by decide +kernel
theorem d1_10 : decode prog_52_method_3_code 10 = .ok (.iload_n 0, 1) := by decide +kernel
theorem d1_11 : decode prog_52_method_3_code 11 = .ok (.ldc 11, 2) := by decide +kernel
theorem d1_13 : decode prog_52_method_3_code 13 = .ok (.if_icmp .gt 8, 3) := by decide +kernel
theorem d1_21 : decode prog_52_method_3_code 21 = .ok (.iconst 0, 1) := by decide +kernel
theorem d1_22 : decode prog_52_method_3_code 22 = .ok (.ireturn, 1) := by decide +kernel
theorem d1_16 : decode prog_52_method_3_code 16 = .ok (.bipush 16, 2) := by decide +kernel
theorem d1_18 : decode prog_52_method_3_code 18 = .ok (.goto 4, 3) := by decide +kernel
theorem d1_7 : decode prog_52_method_3_code 7 = .ok (.bipush 8, 2) := by decide +kernel
theorem d1_9 : decode prog_52_method_3_code 9 = .ok (.ireturn, 1) := by decide +kernel
theorem ef_1 (m : MethodId) (x0 : Int32) : entryFrame m #[(.int x0)] 1 = mkF m 0 #[.val (.int x0)] [] := by first | (simp [entryFrame, mkF, argsToLocals, Value.category]; done) | rfl
def Q1 (Z : State) (p0 : Int32) (h0 : Heap) (n0 : Nat) (v : Option Value) (h : Heap) (L : List Loc) : Prop := v = some (.int (own_flag p0)) ∧ Fr n0 L ∧ h = h0
set_option maxRecDepth 65536 in
set_option maxHeartbeats 40000000 in
theorem rm1 (l : Launch) (Z : State) (a0 : Array Value) (hw : ∀ d ∈ tables_1, d.before a0 Z = true) (ws : List Jvm.Cond) (p0 : Int32) (h0 : Heap) (n0 : Nat) (Z0 : n0 ≤ h0.size) :
    MetFree l (⟨"com/example/bytewright/bytewright/grid/ObjectLayout", "offsetWidthFlag", "(I)I"⟩ : MethodName) (head1 (Jvm.Cond.code (⟨"com/example/bytewright/bytewright/grid/ObjectLayout", "offsetWidthFlag", "(I)I"⟩ : MethodName) prog_52_method_3_code 1 (some .int) :: ws) ({ frames := 0, cells := 0, slots := 0, locals := 0 } : Room)) (fun a U => a = #[(.int p0)] ∧ Z.Warmed39 U.vm ∧ U.heap = h0) (fun _ _ _ _ _ => True) (fun _ U o U' => ∃ v L, o = .returned v ∧ Q1 Z p0 h0 n0 v U'.heap L ∧ FrameEnd U o U' L ({ frames := 0, cells := 0, slots := 0, locals := 0 } : Room).cells ({ frames := 0, cells := 0, slots := 0, locals := 0 } : Room).slots) := by
  refine MetFree.of_bodySF (plainFor_of_name pn0) hisR ?_
  intro p e s m args below meth c s₁ Bd hml0 hP hK
  obtain ⟨rfl, hZ, hh⟩ := hP
  have hx := Bd.exec
  have hby := Bd.bytes
  have hml : c.maxLocals = 1 := hml0
  have hown : s.vm.findClass "com/example/bytewright/bytewright/grid/ObjectLayout" = some m.cls := findClass_of_methodNamed Bd.named
  have hnm := (name_of_methodNamed Bd.named Bd.method).1
  have X0 : Stand p l e ({ frames := 0, cells := 0, slots := 0, locals := 0 } : Room) s m #[(.int p0)] below meth c s₁ [] 0 0 := Stand.of_body Bd
  have e0 : s₁.heap = h0 := by rw [← hh, Bd.state]; rfl
  have N0 := Fr.nil n0
  have pre0 : ∀ t, Steps p.tables e below (s₁.setTop (mkF m 0 #[iv p0] [])) t → Steps p.tables e below (s₁.setTop (entryFrame m #[(.int p0)] 1)) t := fun t k => castTop (ef_1 m p0) k
  have pre1 : ∀ t, Steps p.tables e below (s₁.setTop (mkF m 4 #[iv p0] [(.int (255 : Int32)), (.int p0)])) t → Steps p.tables e below (s₁.setTop (entryFrame m #[(.int p0)] 1)) t := by
    intro t kt
    refine pre0 _ ?_
    show Steps p.tables e below (s₁.setTop (mkF m 0 #[iv p0] [])) _
    refine XS.iloadN X0.here hx rfl (hb hby d1_0) rfl ?_
    show Steps p.tables e below (s₁.setTop (mkF m 1 #[iv p0] [(.int p0)])) _
    refine XS.sipush X0.here hx rfl (hb hby d1_1) ?_
    exact kt
  by_cases hc4 : (255 : Int32) < p0
  · have pre2 : ∀ t, Steps p.tables e below (s₁.setTop (mkF m 13 #[iv p0] [(.int (65535 : Int32)), (.int p0)])) t → Steps p.tables e below (s₁.setTop (entryFrame m #[(.int p0)] 1)) t := by
      intro t kt
      refine pre1 _ ?_
      show Steps p.tables e below (s₁.setTop (mkF m 4 #[iv p0] [(.int (255 : Int32)), (.int p0)])) _
      refine XS.icmpYes X0.here hx rfl (pc0 := 4) (pc' := 10) rfl (hb hby d1_4) rfl (tlt hc4).2.2.1 (by decide) (by decide) ?_
      show Steps p.tables e below (s₁.setTop (mkF m 10 #[iv p0] [])) _
      refine XS.iloadN X0.here hx rfl (hb hby d1_10) rfl ?_
      show Steps p.tables e below (s₁.setTop (mkF m 11 #[iv p0] [(.int p0)])) _
      refine X0.ldcInt hx hown (mvT hZ (hw _ (List.mem_of_getElem? (i := 7) rfl))) (g := (mkF m 11 #[iv p0] [(.int p0)])) rfl (hb hby d1_11) _ ?_
      exact kt
    by_cases hc13 : (65535 : Int32) < p0
    · have pre3 : ∀ t, Steps p.tables e below (s₁.setTop (mkF m 22 #[iv p0] [(.int (0 : Int32))])) t → Steps p.tables e below (s₁.setTop (entryFrame m #[(.int p0)] 1)) t := by
        intro t kt
        refine pre2 _ ?_
        show Steps p.tables e below (s₁.setTop (mkF m 13 #[iv p0] [(.int (65535 : Int32)), (.int p0)])) _
        refine XS.icmpYes X0.here hx rfl (pc0 := 13) (pc' := 21) rfl (hb hby d1_13) rfl (tlt hc13).2.2.1 (by decide) (by decide) ?_
        show Steps p.tables e below (s₁.setTop (mkF m 21 #[iv p0] [])) _
        refine XS.iconst X0.here hx rfl (hb hby d1_21) ?_
        exact kt
      obtain ⟨fs, hr, hrun, hended, hW, hsame⟩ := X0.leave (v := some (.int (0 : Int32))) (fun h => by rw [Bd.returns] at h; cases h)
      refine ⟨_, _, pre3 _ ?_, hrun, hended, _, _, rfl, ?_, ⟨_, rfl⟩, hW, hsame.mono (by decide) (by decide)⟩
      · show Steps p.tables e below (s₁.setTop (mkF m 22 #[iv p0] [(.int (0 : Int32))])) _
        exact retI X0 hx Bd.returns (hb hby d1_22) hr
      · show Q1 Z p0 h0 n0 _ s₁.heap _
        rw [e0]
        exact ⟨congrArg (fun z => some (Value.int z)) ((if_pos hc4).trans ((if_pos hc13).trans rfl)).symm, N0, rfl⟩
    · have pre4 : ∀ t, Steps p.tables e below (s₁.setTop (mkF m 22 #[iv p0] [(.int (16 : Int32))])) t → Steps p.tables e below (s₁.setTop (entryFrame m #[(.int p0)] 1)) t := by
        intro t kt
        refine pre2 _ ?_
        show Steps p.tables e below (s₁.setTop (mkF m 13 #[iv p0] [(.int (65535 : Int32)), (.int p0)])) _
        refine XS.icmpNo X0.here hx rfl (hb hby d1_13) rfl (flt hc13).2.2.1 ?_
        show Steps p.tables e below (s₁.setTop (mkF m 16 #[iv p0] [])) _
        refine XS.bipush X0.here hx rfl (hb hby d1_16) ?_
        show Steps p.tables e below (s₁.setTop (mkF m 18 #[iv p0] [(.int (16 : Int32))])) _
        refine XS.goto X0.here hx rfl (pc0 := 18) (pc' := 22) rfl (hb hby d1_18) (by decide) (by decide) ?_
        exact kt
      obtain ⟨fs, hr, hrun, hended, hW, hsame⟩ := X0.leave (v := some (.int (16 : Int32))) (fun h => by rw [Bd.returns] at h; cases h)
      refine ⟨_, _, pre4 _ ?_, hrun, hended, _, _, rfl, ?_, ⟨_, rfl⟩, hW, hsame.mono (by decide) (by decide)⟩
      · show Steps p.tables e below (s₁.setTop (mkF m 22 #[iv p0] [(.int (16 : Int32))])) _
        exact retI X0 hx Bd.returns (hb hby d1_22) hr
      · show Q1 Z p0 h0 n0 _ s₁.heap _
        rw [e0]
        exact ⟨congrArg (fun z => some (Value.int z)) ((if_pos hc4).trans ((if_neg hc13).trans rfl)).symm, N0, rfl⟩
  · have pre5 : ∀ t, Steps p.tables e below (s₁.setTop (mkF m 9 #[iv p0] [(.int (8 : Int32))])) t → Steps p.tables e below (s₁.setTop (entryFrame m #[(.int p0)] 1)) t := by
      intro t kt
      refine pre1 _ ?_
      show Steps p.tables e below (s₁.setTop (mkF m 4 #[iv p0] [(.int (255 : Int32)), (.int p0)])) _
      refine XS.icmpNo X0.here hx rfl (hb hby d1_4) rfl (flt hc4).2.2.1 ?_
      show Steps p.tables e below (s₁.setTop (mkF m 7 #[iv p0] [])) _
      refine XS.bipush X0.here hx rfl (hb hby d1_7) ?_
      exact kt
    obtain ⟨fs, hr, hrun, hended, hW, hsame⟩ := X0.leave (v := some (.int (8 : Int32))) (fun h => by rw [Bd.returns] at h; cases h)
    refine ⟨_, _, pre5 _ ?_, hrun, hended, _, _, rfl, ?_, ⟨_, rfl⟩, hW, hsame.mono (by decide) (by decide)⟩
    · show Steps p.tables e below (s₁.setTop (mkF m 9 #[iv p0] [(.int (8 : Int32))])) _
      exact retI X0 hx Bd.returns (hb hby d1_9) hr
    · show Q1 Z p0 h0 n0 _ s₁.heap _
      rw [e0]
      exact ⟨congrArg (fun z => some (Value.int z)) ((if_neg hc4).trans rfl).symm, N0, rfl⟩
theorem d2_0 : decode prog_52_method_2_code 0 = .ok (.iload_n 0, 1) := by decide +kernel
theorem d2_1 : decode prog_52_method_2_code 1 = .ok (.bipush 8, 2) := by decide +kernel
theorem d2_3 : decode prog_52_method_2_code 3 = .ok (.iand, 1) := by decide +kernel
theorem d2_4 : decode prog_52_method_2_code 4 = .ok (.ifCond .eq 5, 3) := by decide +kernel
theorem d2_9 : decode prog_52_method_2_code 9 = .ok (.iload_n 0, 1) := by decide +kernel
theorem d2_10 : decode prog_52_method_2_code 10 = .ok (.bipush 16, 2) := by decide +kernel
theorem d2_12 : decode prog_52_method_2_code 12 = .ok (.iand, 1) := by decide +kernel
theorem d2_13 : decode prog_52_method_2_code 13 = .ok (.ifCond .eq 7, 3) := by decide +kernel
theorem d2_20 : decode prog_52_method_2_code 20 = .ok (.iconst 4, 1) := by decide +kernel
theorem d2_21 : decode prog_52_method_2_code 21 = .ok (.ireturn, 1) := by decide +kernel
theorem d2_16 : decode prog_52_method_2_code 16 = .ok (.iconst 2, 1) := by decide +kernel
theorem d2_17 : decode prog_52_method_2_code 17 = .ok (.goto 4, 3) := by decide +kernel
theorem d2_7 : decode prog_52_method_2_code 7 = .ok (.iconst 1, 1) := by decide +kernel
theorem d2_8 : decode prog_52_method_2_code 8 = .ok (.ireturn, 1) := by decide +kernel
theorem ef_2 (m : MethodId) (x0 : Int32) : entryFrame m #[(.int x0)] 1 = mkF m 0 #[.val (.int x0)] [] := by first | (simp [entryFrame, mkF, argsToLocals, Value.category]; done) | rfl
def Q2 (Z : State) (p0 : Int32) (h0 : Heap) (n0 : Nat) (v : Option Value) (h : Heap) (L : List Loc) : Prop := v = some (.int (own_width p0)) ∧ Fr n0 L ∧ h = h0
set_option maxRecDepth 65536 in
set_option maxHeartbeats 40000000 in
theorem rm2 (l : Launch) (Z : State) (a0 : Array Value) (hw : ∀ d ∈ tables_1, d.before a0 Z = true) (ws : List Jvm.Cond) (p0 : Int32) (h0 : Heap) (n0 : Nat) (Z0 : n0 ≤ h0.size) :
    MetFree l (⟨"com/example/bytewright/bytewright/grid/ObjectLayout", "offsetWidth", "(I)I"⟩ : MethodName) (head1 (Jvm.Cond.code (⟨"com/example/bytewright/bytewright/grid/ObjectLayout", "offsetWidth", "(I)I"⟩ : MethodName) prog_52_method_2_code 1 (some .int) :: ws) ({ frames := 0, cells := 0, slots := 0, locals := 0 } : Room)) (fun a U => a = #[(.int p0)] ∧ Z.Warmed39 U.vm ∧ U.heap = h0) (fun _ _ _ _ _ => True) (fun _ U o U' => ∃ v L, o = .returned v ∧ Q2 Z p0 h0 n0 v U'.heap L ∧ FrameEnd U o U' L ({ frames := 0, cells := 0, slots := 0, locals := 0 } : Room).cells ({ frames := 0, cells := 0, slots := 0, locals := 0 } : Room).slots) := by
  refine MetFree.of_bodySF (plainFor_of_name pn0) hisR ?_
  intro p e s m args below meth c s₁ Bd hml0 hP hK
  obtain ⟨rfl, hZ, hh⟩ := hP
  have hx := Bd.exec
  have hby := Bd.bytes
  have hml : c.maxLocals = 1 := hml0
  have hown : s.vm.findClass "com/example/bytewright/bytewright/grid/ObjectLayout" = some m.cls := findClass_of_methodNamed Bd.named
  have hnm := (name_of_methodNamed Bd.named Bd.method).1
  have X0 : Stand p l e ({ frames := 0, cells := 0, slots := 0, locals := 0 } : Room) s m #[(.int p0)] below meth c s₁ [] 0 0 := Stand.of_body Bd
  have e0 : s₁.heap = h0 := by rw [← hh, Bd.state]; rfl
  have N0 := Fr.nil n0
  have pre0 : ∀ t, Steps p.tables e below (s₁.setTop (mkF m 0 #[iv p0] [])) t → Steps p.tables e below (s₁.setTop (entryFrame m #[(.int p0)] 1)) t := fun t k => castTop (ef_2 m p0) k
  have pre1 : ∀ t, Steps p.tables e below (s₁.setTop (mkF m 4 #[iv p0] [(.int (p0 &&& (8 : Int32)))])) t → Steps p.tables e below (s₁.setTop (entryFrame m #[(.int p0)] 1)) t := by
    intro t kt
    refine pre0 _ ?_
    show Steps p.tables e below (s₁.setTop (mkF m 0 #[iv p0] [])) _
    refine XS.iloadN X0.here hx rfl (hb hby d2_0) rfl ?_
    show Steps p.tables e below (s₁.setTop (mkF m 1 #[iv p0] [(.int p0)])) _
    refine XS.bipush X0.here hx rfl (hb hby d2_1) ?_
    show Steps p.tables e below (s₁.setTop (mkF m 3 #[iv p0] [(.int (8 : Int32)), (.int p0)])) _
    refine XS.iand X0.here hx rfl (hb hby d2_3) rfl ?_
    exact kt
  by_cases hc4 : (p0 &&& (8 : Int32)) = (0 : Int32)
  · have pre2 : ∀ t, Steps p.tables e below (s₁.setTop (mkF m 13 #[iv p0] [(.int (p0 &&& (16 : Int32)))])) t → Steps p.tables e below (s₁.setTop (entryFrame m #[(.int p0)] 1)) t := by
      intro t kt
      refine pre1 _ ?_
      show Steps p.tables e below (s₁.setTop (mkF m 4 #[iv p0] [(.int (p0 &&& (8 : Int32)))])) _
      refine XS.ifYes X0.here hx rfl (pc0 := 4) (pc' := 9) rfl (hb hby d2_4) rfl ((if0 _ _).trans (teq hc4).1) (by decide) (by decide) ?_
      show Steps p.tables e below (s₁.setTop (mkF m 9 #[iv p0] [])) _
      refine XS.iloadN X0.here hx rfl (hb hby d2_9) rfl ?_
      show Steps p.tables e below (s₁.setTop (mkF m 10 #[iv p0] [(.int p0)])) _
      refine XS.bipush X0.here hx rfl (hb hby d2_10) ?_
      show Steps p.tables e below (s₁.setTop (mkF m 12 #[iv p0] [(.int (16 : Int32)), (.int p0)])) _
      refine XS.iand X0.here hx rfl (hb hby d2_12) rfl ?_
      exact kt
    by_cases hc13 : (p0 &&& (16 : Int32)) = (0 : Int32)
    · have pre3 : ∀ t, Steps p.tables e below (s₁.setTop (mkF m 21 #[iv p0] [(.int (4 : Int32))])) t → Steps p.tables e below (s₁.setTop (entryFrame m #[(.int p0)] 1)) t := by
        intro t kt
        refine pre2 _ ?_
        show Steps p.tables e below (s₁.setTop (mkF m 13 #[iv p0] [(.int (p0 &&& (16 : Int32)))])) _
        refine XS.ifYes X0.here hx rfl (pc0 := 13) (pc' := 20) rfl (hb hby d2_13) rfl ((if0 _ _).trans (teq hc13).1) (by decide) (by decide) ?_
        show Steps p.tables e below (s₁.setTop (mkF m 20 #[iv p0] [])) _
        refine XS.iconst X0.here hx rfl (hb hby d2_20) ?_
        exact kt
      obtain ⟨fs, hr, hrun, hended, hW, hsame⟩ := X0.leave (v := some (.int (4 : Int32))) (fun h => by rw [Bd.returns] at h; cases h)
      refine ⟨_, _, pre3 _ ?_, hrun, hended, _, _, rfl, ?_, ⟨_, rfl⟩, hW, hsame.mono (by decide) (by decide)⟩
      · show Steps p.tables e below (s₁.setTop (mkF m 21 #[iv p0] [(.int (4 : Int32))])) _
        exact retI X0 hx Bd.returns (hb hby d2_21) hr
      · show Q2 Z p0 h0 n0 _ s₁.heap _
        rw [e0]
        exact ⟨congrArg (fun z => some (Value.int z)) ((if_pos hc4).trans ((if_pos hc13).trans rfl)).symm, N0, rfl⟩
    · have pre4 : ∀ t, Steps p.tables e below (s₁.setTop (mkF m 21 #[iv p0] [(.int (2 : Int32))])) t → Steps p.tables e below (s₁.setTop (entryFrame m #[(.int p0)] 1)) t := by
        intro t kt
        refine pre2 _ ?_
        show Steps p.tables e below (s₁.setTop (mkF m 13 #[iv p0] [(.int (p0 &&& (16 : Int32)))])) _
        refine XS.ifNo X0.here hx rfl (hb hby d2_13) rfl ((if0 _ _).trans (feq hc13).1) ?_
        show Steps p.tables e below (s₁.setTop (mkF m 16 #[iv p0] [])) _
        refine XS.iconst X0.here hx rfl (hb hby d2_16) ?_
        show Steps p.tables e below (s₁.setTop (mkF m 17 #[iv p0] [(.int (2 : Int32))])) _
        refine XS.goto X0.here hx rfl (pc0 := 17) (pc' := 21) rfl (hb hby d2_17) (by decide) (by decide) ?_
        exact kt
      obtain ⟨fs, hr, hrun, hended, hW, hsame⟩ := X0.leave (v := some (.int (2 : Int32))) (fun h => by rw [Bd.returns] at h; cases h)
      refine ⟨_, _, pre4 _ ?_, hrun, hended, _, _, rfl, ?_, ⟨_, rfl⟩, hW, hsame.mono (by decide) (by decide)⟩
      · show Steps p.tables e below (s₁.setTop (mkF m 21 #[iv p0] [(.int (2 : Int32))])) _
        exact retI X0 hx Bd.returns (hb hby d2_21) hr
      · show Q2 Z p0 h0 n0 _ s₁.heap _
        rw [e0]
        exact ⟨congrArg (fun z => some (Value.int z)) ((if_pos hc4).trans ((if_neg hc13).trans rfl)).symm, N0, rfl⟩
  · have pre5 : ∀ t, Steps p.tables e below (s₁.setTop (mkF m 8 #[iv p0] [(.int (1 : Int32))])) t → Steps p.tables e below (s₁.setTop (entryFrame m #[(.int p0)] 1)) t := by
      intro t kt
      refine pre1 _ ?_
      show Steps p.tables e below (s₁.setTop (mkF m 4 #[iv p0] [(.int (p0 &&& (8 : Int32)))])) _
      refine XS.ifNo X0.here hx rfl (hb hby d2_4) rfl ((if0 _ _).trans (feq hc4).1) ?_
      show Steps p.tables e below (s₁.setTop (mkF m 7 #[iv p0] [])) _
      refine XS.iconst X0.here hx rfl (hb hby d2_7) ?_
      exact kt
    obtain ⟨fs, hr, hrun, hended, hW, hsame⟩ := X0.leave (v := some (.int (1 : Int32))) (fun h => by rw [Bd.returns] at h; cases h)
    refine ⟨_, _, pre5 _ ?_, hrun, hended, _, _, rfl, ?_, ⟨_, rfl⟩, hW, hsame.mono (by decide) (by decide)⟩
    · show Steps p.tables e below (s₁.setTop (mkF m 8 #[iv p0] [(.int (1 : Int32))])) _
      exact retI X0 hx Bd.returns (hb hby d2_8) hr
    · show Q2 Z p0 h0 n0 _ s₁.heap _
      rw [e0]
      exact ⟨congrArg (fun z => some (Value.int z)) ((if_neg hc4).trans rfl).symm, N0, rfl⟩
theorem pn1 : plainName "com/example/bytewright/bytewright/grid/ObjectLayoutOffsetWidthFlagPinLaw" = true := by first | (simp [plainName, overriddenIn]; done) | decide +kernel
theorem pd2 : parseMethodDescriptor "(I)I" = some ⟨[.int], some .int⟩ := by decide +kernel
theorem ef_0 (m : MethodId) (x0 : Int32) (x1 : Int32) : entryFrame m #[(.int x0), (.int x1)] maxLocals = mkF m 0 #[.val (.int x0), .val (.int x1), .unset, .unset, .unset, .unset, .unset, .unset] [] := by first | (simp [entryFrame, mkF, argsToLocals, Value.category, maxLocals]; done) | rfl
def Q0 (Z : State) (p0 : Int32) (p1 : Int32) (h0 : Heap) (n0 : Nat) (v : Option Value) (h : Heap) (L : List Loc) : Prop := v = some (.int 1) ∧ Fr n0 L
set_option maxRecDepth 65536 in
set_option maxHeartbeats 40000000 in
theorem rm0 (l : Launch) (Z : State) (a0 : Array Value) (hw : ∀ d ∈ tables_1, d.before a0 Z = true) (ws : List Jvm.Cond) (p0 : Int32) (p1 : Int32) (h0 : Heap) (n0 : Nat) (Z0 : n0 ≤ h0.size) :
    MetFree l x (head1 (Jvm.Cond.code x code maxLocals ret :: ws) room_1) (fun a U => a = #[(.int p0), (.int p1)] ∧ Z.Warmed39 U.vm ∧ U.heap = h0) (fun _ _ _ _ _ => True) (fun _ U o U' => ∃ v L, o = .returned v ∧ Q0 Z p0 p1 h0 n0 v U'.heap L ∧ FrameEnd U o U' L room_1.cells room_1.slots) := by
  refine MetFree.of_bodySF (plainFor_of_name pn1) hisR ?_
  intro p e s m args below meth c s₁ Bd hml0 hP hK
  obtain ⟨rfl, hZ, hh⟩ := hP
  have hx := Bd.exec
  have hby := Bd.bytes
  have hml : c.maxLocals = 8 := hml0
  have hown : s.vm.findClass "com/example/bytewright/bytewright/grid/ObjectLayoutOffsetWidthFlagPinLaw" = some m.cls := findClass_of_methodNamed Bd.named
  have hnm := (name_of_methodNamed Bd.named Bd.method).1
  have X0 : Stand p l e room_1 s m #[(.int p0), (.int p1)] below meth c s₁ [] 0 0 := Stand.of_body Bd
  have e0 : s₁.heap = h0 := by rw [← hh, Bd.state]; rfl
  have N0 := Fr.nil n0
  have pre0 : ∀ t, Steps p.tables e below (s₁.setTop (mkF m 0 #[iv p0, iv p1, .unset, .unset, .unset, .unset, .unset, .unset] [])) t → Steps p.tables e below (s₁.setTop (entryFrame m #[(.int p0), (.int p1)] maxLocals)) t := fun t k => castTop (ef_0 m p0 p1) k
  have pre1 : ∀ t, Steps p.tables e below (s₁.setTop (mkF m 12 #[iv p0, iv p1, iv (p1 &&& (3 : Int32)), iv ((((p1.toUInt32 >>> ((2 : Int32) &&& 31).toUInt32).toInt32) &&& (3 : Int32)) - (1 : Int32)), .unset, .unset, .unset, .unset] [])) t → Steps p.tables e below (s₁.setTop (entryFrame m #[(.int p0), (.int p1)] maxLocals)) t := by
    intro t kt
    refine pre0 _ ?_
    show Steps p.tables e below (s₁.setTop (mkF m 0 #[iv p0, iv p1, .unset, .unset, .unset, .unset, .unset, .unset] [])) _
    refine XS.iloadN X0.here hx rfl (hb hby at_0) rfl ?_
    show Steps p.tables e below (s₁.setTop (mkF m 1 #[iv p0, iv p1, .unset, .unset, .unset, .unset, .unset, .unset] [(.int p1)])) _
    refine XS.iconst X0.here hx rfl (hb hby at_1) ?_
    show Steps p.tables e below (s₁.setTop (mkF m 2 #[iv p0, iv p1, .unset, .unset, .unset, .unset, .unset, .unset] [(.int (3 : Int32)), (.int p1)])) _
    refine XS.iand X0.here hx rfl (hb hby at_2) rfl ?_
    show Steps p.tables e below (s₁.setTop (mkF m 3 #[iv p0, iv p1, .unset, .unset, .unset, .unset, .unset, .unset] [(.int (p1 &&& (3 : Int32)))])) _
    refine XS.istoreN X0.here hx rfl (hb hby at_3) rfl (l' := #[iv p0, iv p1, iv (p1 &&& (3 : Int32)), .unset, .unset, .unset, .unset, .unset]) rfl ?_
    show Steps p.tables e below (s₁.setTop (mkF m 4 #[iv p0, iv p1, iv (p1 &&& (3 : Int32)), .unset, .unset, .unset, .unset, .unset] [])) _
    refine XS.iloadN X0.here hx rfl (hb hby at_4) rfl ?_
    show Steps p.tables e below (s₁.setTop (mkF m 5 #[iv p0, iv p1, iv (p1 &&& (3 : Int32)), .unset, .unset, .unset, .unset, .unset] [(.int p1)])) _
    refine XS.iconst X0.here hx rfl (hb hby at_5) ?_
    show Steps p.tables e below (s₁.setTop (mkF m 6 #[iv p0, iv p1, iv (p1 &&& (3 : Int32)), .unset, .unset, .unset, .unset, .unset] [(.int (2 : Int32)), (.int p1)])) _
    refine XS.iushr X0.here hx rfl (hb hby at_6) rfl ?_
    show Steps p.tables e below (s₁.setTop (mkF m 7 #[iv p0, iv p1, iv (p1 &&& (3 : Int32)), .unset, .unset, .unset, .unset, .unset] [(.int ((p1.toUInt32 >>> ((2 : Int32) &&& 31).toUInt32).toInt32))])) _
    refine XS.iconst X0.here hx rfl (hb hby at_7) ?_
    show Steps p.tables e below (s₁.setTop (mkF m 8 #[iv p0, iv p1, iv (p1 &&& (3 : Int32)), .unset, .unset, .unset, .unset, .unset] [(.int (3 : Int32)), (.int ((p1.toUInt32 >>> ((2 : Int32) &&& 31).toUInt32).toInt32))])) _
    refine XS.iand X0.here hx rfl (hb hby at_8) rfl ?_
    show Steps p.tables e below (s₁.setTop (mkF m 9 #[iv p0, iv p1, iv (p1 &&& (3 : Int32)), .unset, .unset, .unset, .unset, .unset] [(.int (((p1.toUInt32 >>> ((2 : Int32) &&& 31).toUInt32).toInt32) &&& (3 : Int32)))])) _
    refine XS.iconst X0.here hx rfl (hb hby at_9) ?_
    show Steps p.tables e below (s₁.setTop (mkF m 10 #[iv p0, iv p1, iv (p1 &&& (3 : Int32)), .unset, .unset, .unset, .unset, .unset] [(.int (1 : Int32)), (.int (((p1.toUInt32 >>> ((2 : Int32) &&& 31).toUInt32).toInt32) &&& (3 : Int32)))])) _
    refine XS.isub X0.here hx rfl (hb hby at_10) rfl ?_
    show Steps p.tables e below (s₁.setTop (mkF m 11 #[iv p0, iv p1, iv (p1 &&& (3 : Int32)), .unset, .unset, .unset, .unset, .unset] [(.int ((((p1.toUInt32 >>> ((2 : Int32) &&& 31).toUInt32).toInt32) &&& (3 : Int32)) - (1 : Int32)))])) _
    refine XS.istoreN X0.here hx rfl (hb hby at_11) rfl (l' := #[iv p0, iv p1, iv (p1 &&& (3 : Int32)), iv ((((p1.toUInt32 >>> ((2 : Int32) &&& 31).toUInt32).toInt32) &&& (3 : Int32)) - (1 : Int32)), .unset, .unset, .unset, .unset]) rfl ?_
    exact kt
  obtain ⟨n, hj10, pre10⟩ : ∃ (n : Int32), (True) ∧ ∀ t, Steps p.tables e below (s₁.setTop (mkF m 54 #[iv p0, iv p1, iv (p1 &&& (3 : Int32)), iv ((((p1.toUInt32 >>> ((2 : Int32) &&& 31).toUInt32).toInt32) &&& (3 : Int32)) - (1 : Int32)), iv n, .unset, .unset, .unset] [])) t → Steps p.tables e below (s₁.setTop (entryFrame m #[(.int p0), (.int p1)] maxLocals)) t := by
    have pre2 : ∀ t, Steps p.tables e below (s₁.setTop (mkF m 13 #[iv p0, iv p1, iv (p1 &&& (3 : Int32)), iv ((((p1.toUInt32 >>> ((2 : Int32) &&& 31).toUInt32).toInt32) &&& (3 : Int32)) - (1 : Int32)), .unset, .unset, .unset, .unset] [(.int (p1 &&& (3 : Int32)))])) t → Steps p.tables e below (s₁.setTop (entryFrame m #[(.int p0), (.int p1)] maxLocals)) t := by
      intro t kt
      refine pre1 _ ?_
      show Steps p.tables e below (s₁.setTop (mkF m 12 #[iv p0, iv p1, iv (p1 &&& (3 : Int32)), iv ((((p1.toUInt32 >>> ((2 : Int32) &&& 31).toUInt32).toInt32) &&& (3 : Int32)) - (1 : Int32)), .unset, .unset, .unset, .unset] [])) _
      refine XS.iloadN X0.here hx rfl (hb hby at_12) rfl ?_
      exact kt
    by_cases hc13 : (p1 &&& (3 : Int32)) = (0 : Int32)
    · have pre3 : ∀ t, Steps p.tables e below (s₁.setTop (mkF m 54 #[iv p0, iv p1, iv (p1 &&& (3 : Int32)), iv ((((p1.toUInt32 >>> ((2 : Int32) &&& 31).toUInt32).toInt32) &&& (3 : Int32)) - (1 : Int32)), iv p0, .unset, .unset, .unset] [])) t → Steps p.tables e below (s₁.setTop (entryFrame m #[(.int p0), (.int p1)] maxLocals)) t := by
        intro t kt
        refine pre2 _ ?_
        show Steps p.tables e below (s₁.setTop (mkF m 13 #[iv p0, iv p1, iv (p1 &&& (3 : Int32)), iv ((((p1.toUInt32 >>> ((2 : Int32) &&& 31).toUInt32).toInt32) &&& (3 : Int32)) - (1 : Int32)), .unset, .unset, .unset, .unset] [(.int (p1 &&& (3 : Int32)))])) _
        refine XS.ifNo X0.here hx rfl (hb hby at_13) rfl ((if0 _ _).trans (teq hc13).2) ?_
        show Steps p.tables e below (s₁.setTop (mkF m 16 #[iv p0, iv p1, iv (p1 &&& (3 : Int32)), iv ((((p1.toUInt32 >>> ((2 : Int32) &&& 31).toUInt32).toInt32) &&& (3 : Int32)) - (1 : Int32)), .unset, .unset, .unset, .unset] [])) _
        refine XS.iloadN X0.here hx rfl (hb hby at_16) rfl ?_
        show Steps p.tables e below (s₁.setTop (mkF m 17 #[iv p0, iv p1, iv (p1 &&& (3 : Int32)), iv ((((p1.toUInt32 >>> ((2 : Int32) &&& 31).toUInt32).toInt32) &&& (3 : Int32)) - (1 : Int32)), .unset, .unset, .unset, .unset] [(.int p0)])) _
        refine XS.istore X0.here hx rfl (hb hby at_17) rfl (l' := #[iv p0, iv p1, iv (p1 &&& (3 : Int32)), iv ((((p1.toUInt32 >>> ((2 : Int32) &&& 31).toUInt32).toInt32) &&& (3 : Int32)) - (1 : Int32)), iv p0, .unset, .unset, .unset]) rfl ?_
        show Steps p.tables e below (s₁.setTop (mkF m 19 #[iv p0, iv p1, iv (p1 &&& (3 : Int32)), iv ((((p1.toUInt32 >>> ((2 : Int32) &&& 31).toUInt32).toInt32) &&& (3 : Int32)) - (1 : Int32)), iv p0, .unset, .unset, .unset] [])) _
        refine XS.goto X0.here hx rfl (pc0 := 19) (pc' := 54) rfl (hb hby at_19) (by decide) (by decide) ?_
        exact kt
      exact ⟨p0, trivial, pre3⟩
    · have pre4 : ∀ t, Steps p.tables e below (s₁.setTop (mkF m 24 #[iv p0, iv p1, iv (p1 &&& (3 : Int32)), iv ((((p1.toUInt32 >>> ((2 : Int32) &&& 31).toUInt32).toInt32) &&& (3 : Int32)) - (1 : Int32)), .unset, .unset, .unset, .unset] [(.int (1 : Int32)), (.int (p1 &&& (3 : Int32)))])) t → Steps p.tables e below (s₁.setTop (entryFrame m #[(.int p0), (.int p1)] maxLocals)) t := by
        intro t kt
        refine pre2 _ ?_
        show Steps p.tables e below (s₁.setTop (mkF m 13 #[iv p0, iv p1, iv (p1 &&& (3 : Int32)), iv ((((p1.toUInt32 >>> ((2 : Int32) &&& 31).toUInt32).toInt32) &&& (3 : Int32)) - (1 : Int32)), .unset, .unset, .unset, .unset] [(.int (p1 &&& (3 : Int32)))])) _
        refine XS.ifYes X0.here hx rfl (pc0 := 13) (pc' := 22) rfl (hb hby at_13) rfl ((if0 _ _).trans (feq hc13).2) (by decide) (by decide) ?_
        show Steps p.tables e below (s₁.setTop (mkF m 22 #[iv p0, iv p1, iv (p1 &&& (3 : Int32)), iv ((((p1.toUInt32 >>> ((2 : Int32) &&& 31).toUInt32).toInt32) &&& (3 : Int32)) - (1 : Int32)), .unset, .unset, .unset, .unset] [])) _
        refine XS.iloadN X0.here hx rfl (hb hby at_22) rfl ?_
        show Steps p.tables e below (s₁.setTop (mkF m 23 #[iv p0, iv p1, iv (p1 &&& (3 : Int32)), iv ((((p1.toUInt32 >>> ((2 : Int32) &&& 31).toUInt32).toInt32) &&& (3 : Int32)) - (1 : Int32)), .unset, .unset, .unset, .unset] [(.int (p1 &&& (3 : Int32)))])) _
        refine XS.iconst X0.here hx rfl (hb hby at_23) ?_
        exact kt
      by_cases hc24 : (p1 &&& (3 : Int32)) = (1 : Int32)
      · have pre5 : ∀ t, Steps p.tables e below (s₁.setTop (mkF m 54 #[iv p0, iv p1, iv (p1 &&& (3 : Int32)), iv ((((p1.toUInt32 >>> ((2 : Int32) &&& 31).toUInt32).toInt32) &&& (3 : Int32)) - (1 : Int32)), iv ((255 : Int32) + ((((p1.toUInt32 >>> ((2 : Int32) &&& 31).toUInt32).toInt32) &&& (3 : Int32)) - (1 : Int32))), .unset, .unset, .unset] [])) t → Steps p.tables e below (s₁.setTop (entryFrame m #[(.int p0), (.int p1)] maxLocals)) t := by
          intro t kt
          refine pre4 _ ?_
          show Steps p.tables e below (s₁.setTop (mkF m 24 #[iv p0, iv p1, iv (p1 &&& (3 : Int32)), iv ((((p1.toUInt32 >>> ((2 : Int32) &&& 31).toUInt32).toInt32) &&& (3 : Int32)) - (1 : Int32)), .unset, .unset, .unset, .unset] [(.int (1 : Int32)), (.int (p1 &&& (3 : Int32)))])) _
          refine XS.icmpNo X0.here hx rfl (hb hby at_24) rfl (teq hc24).2 ?_
          show Steps p.tables e below (s₁.setTop (mkF m 27 #[iv p0, iv p1, iv (p1 &&& (3 : Int32)), iv ((((p1.toUInt32 >>> ((2 : Int32) &&& 31).toUInt32).toInt32) &&& (3 : Int32)) - (1 : Int32)), .unset, .unset, .unset, .unset] [])) _
          refine XS.sipush X0.here hx rfl (hb hby at_27) ?_
          show Steps p.tables e below (s₁.setTop (mkF m 30 #[iv p0, iv p1, iv (p1 &&& (3 : Int32)), iv ((((p1.toUInt32 >>> ((2 : Int32) &&& 31).toUInt32).toInt32) &&& (3 : Int32)) - (1 : Int32)), .unset, .unset, .unset, .unset] [(.int (255 : Int32))])) _
          refine XS.iloadN X0.here hx rfl (hb hby at_30) rfl ?_
          show Steps p.tables e below (s₁.setTop (mkF m 31 #[iv p0, iv p1, iv (p1 &&& (3 : Int32)), iv ((((p1.toUInt32 >>> ((2 : Int32) &&& 31).toUInt32).toInt32) &&& (3 : Int32)) - (1 : Int32)), .unset, .unset, .unset, .unset] [(.int ((((p1.toUInt32 >>> ((2 : Int32) &&& 31).toUInt32).toInt32) &&& (3 : Int32)) - (1 : Int32))), (.int (255 : Int32))])) _
          refine XS.iadd X0.here hx rfl (hb hby at_31) rfl ?_
          show Steps p.tables e below (s₁.setTop (mkF m 32 #[iv p0, iv p1, iv (p1 &&& (3 : Int32)), iv ((((p1.toUInt32 >>> ((2 : Int32) &&& 31).toUInt32).toInt32) &&& (3 : Int32)) - (1 : Int32)), .unset, .unset, .unset, .unset] [(.int ((255 : Int32) + ((((p1.toUInt32 >>> ((2 : Int32) &&& 31).toUInt32).toInt32) &&& (3 : Int32)) - (1 : Int32))))])) _
          refine XS.istore X0.here hx rfl (hb hby at_32) rfl (l' := #[iv p0, iv p1, iv (p1 &&& (3 : Int32)), iv ((((p1.toUInt32 >>> ((2 : Int32) &&& 31).toUInt32).toInt32) &&& (3 : Int32)) - (1 : Int32)), iv ((255 : Int32) + ((((p1.toUInt32 >>> ((2 : Int32) &&& 31).toUInt32).toInt32) &&& (3 : Int32)) - (1 : Int32))), .unset, .unset, .unset]) rfl ?_
          show Steps p.tables e below (s₁.setTop (mkF m 34 #[iv p0, iv p1, iv (p1 &&& (3 : Int32)), iv ((((p1.toUInt32 >>> ((2 : Int32) &&& 31).toUInt32).toInt32) &&& (3 : Int32)) - (1 : Int32)), iv ((255 : Int32) + ((((p1.toUInt32 >>> ((2 : Int32) &&& 31).toUInt32).toInt32) &&& (3 : Int32)) - (1 : Int32))), .unset, .unset, .unset] [])) _
          refine XS.goto X0.here hx rfl (pc0 := 34) (pc' := 54) rfl (hb hby at_34) (by decide) (by decide) ?_
          exact kt
        exact ⟨((255 : Int32) + ((((p1.toUInt32 >>> ((2 : Int32) &&& 31).toUInt32).toInt32) &&& (3 : Int32)) - (1 : Int32))), trivial, pre5⟩
      · have pre6 : ∀ t, Steps p.tables e below (s₁.setTop (mkF m 39 #[iv p0, iv p1, iv (p1 &&& (3 : Int32)), iv ((((p1.toUInt32 >>> ((2 : Int32) &&& 31).toUInt32).toInt32) &&& (3 : Int32)) - (1 : Int32)), .unset, .unset, .unset, .unset] [(.int (2 : Int32)), (.int (p1 &&& (3 : Int32)))])) t → Steps p.tables e below (s₁.setTop (entryFrame m #[(.int p0), (.int p1)] maxLocals)) t := by
          intro t kt
          refine pre4 _ ?_
          show Steps p.tables e below (s₁.setTop (mkF m 24 #[iv p0, iv p1, iv (p1 &&& (3 : Int32)), iv ((((p1.toUInt32 >>> ((2 : Int32) &&& 31).toUInt32).toInt32) &&& (3 : Int32)) - (1 : Int32)), .unset, .unset, .unset, .unset] [(.int (1 : Int32)), (.int (p1 &&& (3 : Int32)))])) _
          refine XS.icmpYes X0.here hx rfl (pc0 := 24) (pc' := 37) rfl (hb hby at_24) rfl (feq hc24).2 (by decide) (by decide) ?_
          show Steps p.tables e below (s₁.setTop (mkF m 37 #[iv p0, iv p1, iv (p1 &&& (3 : Int32)), iv ((((p1.toUInt32 >>> ((2 : Int32) &&& 31).toUInt32).toInt32) &&& (3 : Int32)) - (1 : Int32)), .unset, .unset, .unset, .unset] [])) _
          refine XS.iloadN X0.here hx rfl (hb hby at_37) rfl ?_
          show Steps p.tables e below (s₁.setTop (mkF m 38 #[iv p0, iv p1, iv (p1 &&& (3 : Int32)), iv ((((p1.toUInt32 >>> ((2 : Int32) &&& 31).toUInt32).toInt32) &&& (3 : Int32)) - (1 : Int32)), .unset, .unset, .unset, .unset] [(.int (p1 &&& (3 : Int32)))])) _
          refine XS.iconst X0.here hx rfl (hb hby at_38) ?_
          exact kt
        by_cases hc39 : (p1 &&& (3 : Int32)) = (2 : Int32)
        · have pre7 : ∀ t, Steps p.tables e below (s₁.setTop (mkF m 54 #[iv p0, iv p1, iv (p1 &&& (3 : Int32)), iv ((((p1.toUInt32 >>> ((2 : Int32) &&& 31).toUInt32).toInt32) &&& (3 : Int32)) - (1 : Int32)), iv ((65535 : Int32) + ((((p1.toUInt32 >>> ((2 : Int32) &&& 31).toUInt32).toInt32) &&& (3 : Int32)) - (1 : Int32))), .unset, .unset, .unset] [])) t → Steps p.tables e below (s₁.setTop (entryFrame m #[(.int p0), (.int p1)] maxLocals)) t := by
            intro t kt
            refine pre6 _ ?_
            show Steps p.tables e below (s₁.setTop (mkF m 39 #[iv p0, iv p1, iv (p1 &&& (3 : Int32)), iv ((((p1.toUInt32 >>> ((2 : Int32) &&& 31).toUInt32).toInt32) &&& (3 : Int32)) - (1 : Int32)), .unset, .unset, .unset, .unset] [(.int (2 : Int32)), (.int (p1 &&& (3 : Int32)))])) _
            refine XS.icmpNo X0.here hx rfl (hb hby at_39) rfl (teq hc39).2 ?_
            show Steps p.tables e below (s₁.setTop (mkF m 42 #[iv p0, iv p1, iv (p1 &&& (3 : Int32)), iv ((((p1.toUInt32 >>> ((2 : Int32) &&& 31).toUInt32).toInt32) &&& (3 : Int32)) - (1 : Int32)), .unset, .unset, .unset, .unset] [])) _
            refine X0.ldcInt hx hown (mvT hZ (hw _ (List.mem_of_getElem? (i := 8) rfl))) (g := (mkF m 42 #[iv p0, iv p1, iv (p1 &&& (3 : Int32)), iv ((((p1.toUInt32 >>> ((2 : Int32) &&& 31).toUInt32).toInt32) &&& (3 : Int32)) - (1 : Int32)), .unset, .unset, .unset, .unset] [])) rfl (hb hby at_42) _ ?_
            show Steps p.tables e below (s₁.setTop (mkF m 44 #[iv p0, iv p1, iv (p1 &&& (3 : Int32)), iv ((((p1.toUInt32 >>> ((2 : Int32) &&& 31).toUInt32).toInt32) &&& (3 : Int32)) - (1 : Int32)), .unset, .unset, .unset, .unset] [(.int (65535 : Int32))])) _
            refine XS.iloadN X0.here hx rfl (hb hby at_44) rfl ?_
            show Steps p.tables e below (s₁.setTop (mkF m 45 #[iv p0, iv p1, iv (p1 &&& (3 : Int32)), iv ((((p1.toUInt32 >>> ((2 : Int32) &&& 31).toUInt32).toInt32) &&& (3 : Int32)) - (1 : Int32)), .unset, .unset, .unset, .unset] [(.int ((((p1.toUInt32 >>> ((2 : Int32) &&& 31).toUInt32).toInt32) &&& (3 : Int32)) - (1 : Int32))), (.int (65535 : Int32))])) _
            refine XS.iadd X0.here hx rfl (hb hby at_45) rfl ?_
            show Steps p.tables e below (s₁.setTop (mkF m 46 #[iv p0, iv p1, iv (p1 &&& (3 : Int32)), iv ((((p1.toUInt32 >>> ((2 : Int32) &&& 31).toUInt32).toInt32) &&& (3 : Int32)) - (1 : Int32)), .unset, .unset, .unset, .unset] [(.int ((65535 : Int32) + ((((p1.toUInt32 >>> ((2 : Int32) &&& 31).toUInt32).toInt32) &&& (3 : Int32)) - (1 : Int32))))])) _
            refine XS.istore X0.here hx rfl (hb hby at_46) rfl (l' := #[iv p0, iv p1, iv (p1 &&& (3 : Int32)), iv ((((p1.toUInt32 >>> ((2 : Int32) &&& 31).toUInt32).toInt32) &&& (3 : Int32)) - (1 : Int32)), iv ((65535 : Int32) + ((((p1.toUInt32 >>> ((2 : Int32) &&& 31).toUInt32).toInt32) &&& (3 : Int32)) - (1 : Int32))), .unset, .unset, .unset]) rfl ?_
            show Steps p.tables e below (s₁.setTop (mkF m 48 #[iv p0, iv p1, iv (p1 &&& (3 : Int32)), iv ((((p1.toUInt32 >>> ((2 : Int32) &&& 31).toUInt32).toInt32) &&& (3 : Int32)) - (1 : Int32)), iv ((65535 : Int32) + ((((p1.toUInt32 >>> ((2 : Int32) &&& 31).toUInt32).toInt32) &&& (3 : Int32)) - (1 : Int32))), .unset, .unset, .unset] [])) _
            refine XS.goto X0.here hx rfl (pc0 := 48) (pc' := 54) rfl (hb hby at_48) (by decide) (by decide) ?_
            exact kt
          exact ⟨((65535 : Int32) + ((((p1.toUInt32 >>> ((2 : Int32) &&& 31).toUInt32).toInt32) &&& (3 : Int32)) - (1 : Int32))), trivial, pre7⟩
        · have pre8 : ∀ t, Steps p.tables e below (s₁.setTop (mkF m 54 #[iv p0, iv p1, iv (p1 &&& (3 : Int32)), iv ((((p1.toUInt32 >>> ((2 : Int32) &&& 31).toUInt32).toInt32) &&& (3 : Int32)) - (1 : Int32)), iv ((((p1.toUInt32 >>> ((2 : Int32) &&& 31).toUInt32).toInt32) &&& (3 : Int32)) - (1 : Int32)), .unset, .unset, .unset] [])) t → Steps p.tables e below (s₁.setTop (entryFrame m #[(.int p0), (.int p1)] maxLocals)) t := by
            intro t kt
            refine pre6 _ ?_
            show Steps p.tables e below (s₁.setTop (mkF m 39 #[iv p0, iv p1, iv (p1 &&& (3 : Int32)), iv ((((p1.toUInt32 >>> ((2 : Int32) &&& 31).toUInt32).toInt32) &&& (3 : Int32)) - (1 : Int32)), .unset, .unset, .unset, .unset] [(.int (2 : Int32)), (.int (p1 &&& (3 : Int32)))])) _
            refine XS.icmpYes X0.here hx rfl (pc0 := 39) (pc' := 51) rfl (hb hby at_39) rfl (feq hc39).2 (by decide) (by decide) ?_
            show Steps p.tables e below (s₁.setTop (mkF m 51 #[iv p0, iv p1, iv (p1 &&& (3 : Int32)), iv ((((p1.toUInt32 >>> ((2 : Int32) &&& 31).toUInt32).toInt32) &&& (3 : Int32)) - (1 : Int32)), .unset, .unset, .unset, .unset] [])) _
            refine XS.iloadN X0.here hx rfl (hb hby at_51) rfl ?_
            show Steps p.tables e below (s₁.setTop (mkF m 52 #[iv p0, iv p1, iv (p1 &&& (3 : Int32)), iv ((((p1.toUInt32 >>> ((2 : Int32) &&& 31).toUInt32).toInt32) &&& (3 : Int32)) - (1 : Int32)), .unset, .unset, .unset, .unset] [(.int ((((p1.toUInt32 >>> ((2 : Int32) &&& 31).toUInt32).toInt32) &&& (3 : Int32)) - (1 : Int32)))])) _
            refine XS.istore X0.here hx rfl (hb hby at_52) rfl (l' := #[iv p0, iv p1, iv (p1 &&& (3 : Int32)), iv ((((p1.toUInt32 >>> ((2 : Int32) &&& 31).toUInt32).toInt32) &&& (3 : Int32)) - (1 : Int32)), iv ((((p1.toUInt32 >>> ((2 : Int32) &&& 31).toUInt32).toInt32) &&& (3 : Int32)) - (1 : Int32)), .unset, .unset, .unset]) rfl ?_
            exact kt
          exact ⟨((((p1.toUInt32 >>> ((2 : Int32) &&& 31).toUInt32).toInt32) &&& (3 : Int32)) - (1 : Int32)), trivial, pre8⟩
  have pre11 : ∀ t, Steps p.tables e below (s₁.setTop (mkF m 56 #[iv p0, iv p1, iv (p1 &&& (3 : Int32)), iv ((((p1.toUInt32 >>> ((2 : Int32) &&& 31).toUInt32).toInt32) &&& (3 : Int32)) - (1 : Int32)), iv n, .unset, .unset, .unset] [(.int n)])) t → Steps p.tables e below (s₁.setTop (entryFrame m #[(.int p0), (.int p1)] maxLocals)) t := by
    intro t kt
    refine pre10 _ ?_
    show Steps p.tables e below (s₁.setTop (mkF m 54 #[iv p0, iv p1, iv (p1 &&& (3 : Int32)), iv ((((p1.toUInt32 >>> ((2 : Int32) &&& 31).toUInt32).toInt32) &&& (3 : Int32)) - (1 : Int32)), iv n, .unset, .unset, .unset] [])) _
    refine XS.iload X0.here hx rfl (hb hby at_54) rfl ?_
    exact kt
  obtain ⟨_, _, ⟨T12, L12, k12, n12⟩, -, X12, ⟨Lc12, hQ12, l12, y12, z12⟩, st12⟩ := Jvm.LawKit.callS X0 hx (y := (⟨"com/example/bytewright/bytewright/grid/ObjectLayout", "offsetWidthFlag", "(I)I"⟩ : MethodName)) hown (mvT hZ (hw _ (List.mem_of_getElem? (i := 0) rfl))) (mvT hZ (hw _ (List.mem_of_getElem? (i := 1) rfl))) (mvT hZ (hw _ (List.mem_of_getElem? (i := 2) rfl))) (mvT hZ (hw _ (List.mem_of_getElem? (i := 3) rfl))) (by decide) (backOf (W := 0) (rm1 l Z a0 hw [] n h0 n0 (Nat.le_trans Z0 (Keep.refl h0 []).1)) hZ (hw _ (List.mem_of_getElem? (i := 3) rfl)) (hw _ (List.mem_of_getElem? (i := 2) rfl)) (by decide) (by decide)) (g := (mkF m 56 #[iv p0, iv p1, iv (p1 &&& (3 : Int32)), iv ((((p1.toUInt32 >>> ((2 : Int32) &&& 31).toUInt32).toInt32) &&& (3 : Int32)) - (1 : Int32)), iv n, .unset, .unset, .unset] [(.int n)])) rfl (by rw [hml]; rfl) (argsL := [(.int n)]) (rest := []) (lenOf pd2 rfl) rfl (by show 2 * 0 + _ ≤ _; exact Nat.le_of_eq rfl) (hb hby at_56) (fun _ _ => ⟨rfl, e0, (by decide : 0 + 0 ≤ _), (by decide : 0 + 0 ≤ _)⟩)
  dsimp only [Pt.U, Pt.locs, Pt.cells, Pt.slots] at X12 l12 y12 z12 st12 hQ12
  subst l12 y12 z12
  obtain ⟨rfl, N12q, hh12⟩ := hQ12
  have N12 := Fr.app N0 N12q
  have pre13 : ∀ t, Steps p.tables e below (T12.setTop (mkF m 61 #[iv p0, iv p1, iv (p1 &&& (3 : Int32)), iv ((((p1.toUInt32 >>> ((2 : Int32) &&& 31).toUInt32).toInt32) &&& (3 : Int32)) - (1 : Int32)), iv n, iv (own_flag n), .unset, .unset] [])) t → Steps p.tables e below (s₁.setTop (entryFrame m #[(.int p0), (.int p1)] maxLocals)) t := by
    intro t kt
    refine pre11 _ ?_
    show Steps p.tables e below (s₁.setTop (mkF m 56 #[iv p0, iv p1, iv (p1 &&& (3 : Int32)), iv ((((p1.toUInt32 >>> ((2 : Int32) &&& 31).toUInt32).toInt32) &&& (3 : Int32)) - (1 : Int32)), iv n, .unset, .unset, .unset] [(.int n)])) _
    refine st12 _ ?_
    show Steps p.tables e below (T12.setTop (mkF m 59 #[iv p0, iv p1, iv (p1 &&& (3 : Int32)), iv ((((p1.toUInt32 >>> ((2 : Int32) &&& 31).toUInt32).toInt32) &&& (3 : Int32)) - (1 : Int32)), iv n, .unset, .unset, .unset] [(.int (own_flag n))])) _
    refine XS.istore X12.here hx rfl (hb hby at_59) rfl (l' := #[iv p0, iv p1, iv (p1 &&& (3 : Int32)), iv ((((p1.toUInt32 >>> ((2 : Int32) &&& 31).toUInt32).toInt32) &&& (3 : Int32)) - (1 : Int32)), iv n, iv (own_flag n), .unset, .unset]) rfl ?_
    exact kt
  obtain ⟨w, hw_, pre22⟩ : ∃ (w : Int32), (((n < (0 : Int32)) ∧ w = (1 : Int32)) ∨ ((¬ (n < (0 : Int32))) ∧ (((n.toUInt32 >>> ((8 : Int32) &&& 31).toUInt32).toInt32) = (0 : Int32)) ∧ w = (1 : Int32)) ∨ ((¬ (n < (0 : Int32))) ∧ (¬ (((n.toUInt32 >>> ((8 : Int32) &&& 31).toUInt32).toInt32) = (0 : Int32))) ∧ (((n.toUInt32 >>> ((16 : Int32) &&& 31).toUInt32).toInt32) = (0 : Int32)) ∧ w = (2 : Int32)) ∨ ((¬ (n < (0 : Int32))) ∧ (¬ (((n.toUInt32 >>> ((8 : Int32) &&& 31).toUInt32).toInt32) = (0 : Int32))) ∧ (¬ (((n.toUInt32 >>> ((16 : Int32) &&& 31).toUInt32).toInt32) = (0 : Int32))) ∧ w = (4 : Int32))) ∧ ∀ t, Steps p.tables e below (T12.setTop (mkF m 97 #[iv p0, iv p1, iv (p1 &&& (3 : Int32)), iv ((((p1.toUInt32 >>> ((2 : Int32) &&& 31).toUInt32).toInt32) &&& (3 : Int32)) - (1 : Int32)), iv n, iv (own_flag n), iv w, .unset] [])) t → Steps p.tables e below (s₁.setTop (entryFrame m #[(.int p0), (.int p1)] maxLocals)) t := by
    have pre14 : ∀ t, Steps p.tables e below (T12.setTop (mkF m 63 #[iv p0, iv p1, iv (p1 &&& (3 : Int32)), iv ((((p1.toUInt32 >>> ((2 : Int32) &&& 31).toUInt32).toInt32) &&& (3 : Int32)) - (1 : Int32)), iv n, iv (own_flag n), .unset, .unset] [(.int n)])) t → Steps p.tables e below (s₁.setTop (entryFrame m #[(.int p0), (.int p1)] maxLocals)) t := by
      intro t kt
      refine pre13 _ ?_
      show Steps p.tables e below (T12.setTop (mkF m 61 #[iv p0, iv p1, iv (p1 &&& (3 : Int32)), iv ((((p1.toUInt32 >>> ((2 : Int32) &&& 31).toUInt32).toInt32) &&& (3 : Int32)) - (1 : Int32)), iv n, iv (own_flag n), .unset, .unset] [])) _
      refine XS.iload X12.here hx rfl (hb hby at_61) rfl ?_
      exact kt
    by_cases hc63 : n < (0 : Int32)
    · have pre15 : ∀ t, Steps p.tables e below (T12.setTop (mkF m 97 #[iv p0, iv p1, iv (p1 &&& (3 : Int32)), iv ((((p1.toUInt32 >>> ((2 : Int32) &&& 31).toUInt32).toInt32) &&& (3 : Int32)) - (1 : Int32)), iv n, iv (own_flag n), iv (1 : Int32), .unset] [])) t → Steps p.tables e below (s₁.setTop (entryFrame m #[(.int p0), (.int p1)] maxLocals)) t := by
        intro t kt
        refine pre14 _ ?_
        show Steps p.tables e below (T12.setTop (mkF m 63 #[iv p0, iv p1, iv (p1 &&& (3 : Int32)), iv ((((p1.toUInt32 >>> ((2 : Int32) &&& 31).toUInt32).toInt32) &&& (3 : Int32)) - (1 : Int32)), iv n, iv (own_flag n), .unset, .unset] [(.int n)])) _
        refine XS.ifYes X12.here hx rfl (pc0 := 63) (pc' := 74) rfl (hb hby at_63) rfl ((if0 _ _).trans (tlt hc63).1) (by decide) (by decide) ?_
        show Steps p.tables e below (T12.setTop (mkF m 74 #[iv p0, iv p1, iv (p1 &&& (3 : Int32)), iv ((((p1.toUInt32 >>> ((2 : Int32) &&& 31).toUInt32).toInt32) &&& (3 : Int32)) - (1 : Int32)), iv n, iv (own_flag n), .unset, .unset] [])) _
        refine XS.iconst X12.here hx rfl (hb hby at_74) ?_
        show Steps p.tables e below (T12.setTop (mkF m 75 #[iv p0, iv p1, iv (p1 &&& (3 : Int32)), iv ((((p1.toUInt32 >>> ((2 : Int32) &&& 31).toUInt32).toInt32) &&& (3 : Int32)) - (1 : Int32)), iv n, iv (own_flag n), .unset, .unset] [(.int (1 : Int32))])) _
        refine XS.istore X12.here hx rfl (hb hby at_75) rfl (l' := #[iv p0, iv p1, iv (p1 &&& (3 : Int32)), iv ((((p1.toUInt32 >>> ((2 : Int32) &&& 31).toUInt32).toInt32) &&& (3 : Int32)) - (1 : Int32)), iv n, iv (own_flag n), iv (1 : Int32), .unset]) rfl ?_
        show Steps p.tables e below (T12.setTop (mkF m 77 #[iv p0, iv p1, iv (p1 &&& (3 : Int32)), iv ((((p1.toUInt32 >>> ((2 : Int32) &&& 31).toUInt32).toInt32) &&& (3 : Int32)) - (1 : Int32)), iv n, iv (own_flag n), iv (1 : Int32), .unset] [])) _
        refine XS.goto X12.here hx rfl (pc0 := 77) (pc' := 97) rfl (hb hby at_77) (by decide) (by decide) ?_
        exact kt
      exact ⟨(1 : Int32), Or.inl ⟨hc63, rfl⟩, pre15⟩
    · have pre16 : ∀ t, Steps p.tables e below (T12.setTop (mkF m 71 #[iv p0, iv p1, iv (p1 &&& (3 : Int32)), iv ((((p1.toUInt32 >>> ((2 : Int32) &&& 31).toUInt32).toInt32) &&& (3 : Int32)) - (1 : Int32)), iv n, iv (own_flag n), .unset, .unset] [(.int ((n.toUInt32 >>> ((8 : Int32) &&& 31).toUInt32).toInt32))])) t → Steps p.tables e below (s₁.setTop (entryFrame m #[(.int p0), (.int p1)] maxLocals)) t := by
        intro t kt
        refine pre14 _ ?_
        show Steps p.tables e below (T12.setTop (mkF m 63 #[iv p0, iv p1, iv (p1 &&& (3 : Int32)), iv ((((p1.toUInt32 >>> ((2 : Int32) &&& 31).toUInt32).toInt32) &&& (3 : Int32)) - (1 : Int32)), iv n, iv (own_flag n), .unset, .unset] [(.int n)])) _
        refine XS.ifNo X12.here hx rfl (hb hby at_63) rfl ((if0 _ _).trans (flt hc63).1) ?_
        show Steps p.tables e below (T12.setTop (mkF m 66 #[iv p0, iv p1, iv (p1 &&& (3 : Int32)), iv ((((p1.toUInt32 >>> ((2 : Int32) &&& 31).toUInt32).toInt32) &&& (3 : Int32)) - (1 : Int32)), iv n, iv (own_flag n), .unset, .unset] [])) _
        refine XS.iload X12.here hx rfl (hb hby at_66) rfl ?_
        show Steps p.tables e below (T12.setTop (mkF m 68 #[iv p0, iv p1, iv (p1 &&& (3 : Int32)), iv ((((p1.toUInt32 >>> ((2 : Int32) &&& 31).toUInt32).toInt32) &&& (3 : Int32)) - (1 : Int32)), iv n, iv (own_flag n), .unset, .unset] [(.int n)])) _
        refine XS.bipush X12.here hx rfl (hb hby at_68) ?_
        show Steps p.tables e below (T12.setTop (mkF m 70 #[iv p0, iv p1, iv (p1 &&& (3 : Int32)), iv ((((p1.toUInt32 >>> ((2 : Int32) &&& 31).toUInt32).toInt32) &&& (3 : Int32)) - (1 : Int32)), iv n, iv (own_flag n), .unset, .unset] [(.int (8 : Int32)), (.int n)])) _
        refine XS.iushr X12.here hx rfl (hb hby at_70) rfl ?_
        exact kt
      by_cases hc71 : ((n.toUInt32 >>> ((8 : Int32) &&& 31).toUInt32).toInt32) = (0 : Int32)
      · have pre17 : ∀ t, Steps p.tables e below (T12.setTop (mkF m 97 #[iv p0, iv p1, iv (p1 &&& (3 : Int32)), iv ((((p1.toUInt32 >>> ((2 : Int32) &&& 31).toUInt32).toInt32) &&& (3 : Int32)) - (1 : Int32)), iv n, iv (own_flag n), iv (1 : Int32), .unset] [])) t → Steps p.tables e below (s₁.setTop (entryFrame m #[(.int p0), (.int p1)] maxLocals)) t := by
          intro t kt
          refine pre16 _ ?_
          show Steps p.tables e below (T12.setTop (mkF m 71 #[iv p0, iv p1, iv (p1 &&& (3 : Int32)), iv ((((p1.toUInt32 >>> ((2 : Int32) &&& 31).toUInt32).toInt32) &&& (3 : Int32)) - (1 : Int32)), iv n, iv (own_flag n), .unset, .unset] [(.int ((n.toUInt32 >>> ((8 : Int32) &&& 31).toUInt32).toInt32))])) _
          refine XS.ifNo X12.here hx rfl (hb hby at_71) rfl ((if0 _ _).trans (teq hc71).2) ?_
          show Steps p.tables e below (T12.setTop (mkF m 74 #[iv p0, iv p1, iv (p1 &&& (3 : Int32)), iv ((((p1.toUInt32 >>> ((2 : Int32) &&& 31).toUInt32).toInt32) &&& (3 : Int32)) - (1 : Int32)), iv n, iv (own_flag n), .unset, .unset] [])) _
          refine XS.iconst X12.here hx rfl (hb hby at_74) ?_
          show Steps p.tables e below (T12.setTop (mkF m 75 #[iv p0, iv p1, iv (p1 &&& (3 : Int32)), iv ((((p1.toUInt32 >>> ((2 : Int32) &&& 31).toUInt32).toInt32) &&& (3 : Int32)) - (1 : Int32)), iv n, iv (own_flag n), .unset, .unset] [(.int (1 : Int32))])) _
          refine XS.istore X12.here hx rfl (hb hby at_75) rfl (l' := #[iv p0, iv p1, iv (p1 &&& (3 : Int32)), iv ((((p1.toUInt32 >>> ((2 : Int32) &&& 31).toUInt32).toInt32) &&& (3 : Int32)) - (1 : Int32)), iv n, iv (own_flag n), iv (1 : Int32), .unset]) rfl ?_
          show Steps p.tables e below (T12.setTop (mkF m 77 #[iv p0, iv p1, iv (p1 &&& (3 : Int32)), iv ((((p1.toUInt32 >>> ((2 : Int32) &&& 31).toUInt32).toInt32) &&& (3 : Int32)) - (1 : Int32)), iv n, iv (own_flag n), iv (1 : Int32), .unset] [])) _
          refine XS.goto X12.here hx rfl (pc0 := 77) (pc' := 97) rfl (hb hby at_77) (by decide) (by decide) ?_
          exact kt
        exact ⟨(1 : Int32), Or.inr (Or.inl ⟨hc63, hc71, rfl⟩), pre17⟩
      · have pre18 : ∀ t, Steps p.tables e below (T12.setTop (mkF m 85 #[iv p0, iv p1, iv (p1 &&& (3 : Int32)), iv ((((p1.toUInt32 >>> ((2 : Int32) &&& 31).toUInt32).toInt32) &&& (3 : Int32)) - (1 : Int32)), iv n, iv (own_flag n), .unset, .unset] [(.int ((n.toUInt32 >>> ((16 : Int32) &&& 31).toUInt32).toInt32))])) t → Steps p.tables e below (s₁.setTop (entryFrame m #[(.int p0), (.int p1)] maxLocals)) t := by
          intro t kt
          refine pre16 _ ?_
          show Steps p.tables e below (T12.setTop (mkF m 71 #[iv p0, iv p1, iv (p1 &&& (3 : Int32)), iv ((((p1.toUInt32 >>> ((2 : Int32) &&& 31).toUInt32).toInt32) &&& (3 : Int32)) - (1 : Int32)), iv n, iv (own_flag n), .unset, .unset] [(.int ((n.toUInt32 >>> ((8 : Int32) &&& 31).toUInt32).toInt32))])) _
          refine XS.ifYes X12.here hx rfl (pc0 := 71) (pc' := 80) rfl (hb hby at_71) rfl ((if0 _ _).trans (feq hc71).2) (by decide) (by decide) ?_
          show Steps p.tables e below (T12.setTop (mkF m 80 #[iv p0, iv p1, iv (p1 &&& (3 : Int32)), iv ((((p1.toUInt32 >>> ((2 : Int32) &&& 31).toUInt32).toInt32) &&& (3 : Int32)) - (1 : Int32)), iv n, iv (own_flag n), .unset, .unset] [])) _
          refine XS.iload X12.here hx rfl (hb hby at_80) rfl ?_
          show Steps p.tables e below (T12.setTop (mkF m 82 #[iv p0, iv p1, iv (p1 &&& (3 : Int32)), iv ((((p1.toUInt32 >>> ((2 : Int32) &&& 31).toUInt32).toInt32) &&& (3 : Int32)) - (1 : Int32)), iv n, iv (own_flag n), .unset, .unset] [(.int n)])) _
          refine XS.bipush X12.here hx rfl (hb hby at_82) ?_
          show Steps p.tables e below (T12.setTop (mkF m 84 #[iv p0, iv p1, iv (p1 &&& (3 : Int32)), iv ((((p1.toUInt32 >>> ((2 : Int32) &&& 31).toUInt32).toInt32) &&& (3 : Int32)) - (1 : Int32)), iv n, iv (own_flag n), .unset, .unset] [(.int (16 : Int32)), (.int n)])) _
          refine XS.iushr X12.here hx rfl (hb hby at_84) rfl ?_
          exact kt
        by_cases hc85 : ((n.toUInt32 >>> ((16 : Int32) &&& 31).toUInt32).toInt32) = (0 : Int32)
        · have pre19 : ∀ t, Steps p.tables e below (T12.setTop (mkF m 97 #[iv p0, iv p1, iv (p1 &&& (3 : Int32)), iv ((((p1.toUInt32 >>> ((2 : Int32) &&& 31).toUInt32).toInt32) &&& (3 : Int32)) - (1 : Int32)), iv n, iv (own_flag n), iv (2 : Int32), .unset] [])) t → Steps p.tables e below (s₁.setTop (entryFrame m #[(.int p0), (.int p1)] maxLocals)) t := by
            intro t kt
            refine pre18 _ ?_
            show Steps p.tables e below (T12.setTop (mkF m 85 #[iv p0, iv p1, iv (p1 &&& (3 : Int32)), iv ((((p1.toUInt32 >>> ((2 : Int32) &&& 31).toUInt32).toInt32) &&& (3 : Int32)) - (1 : Int32)), iv n, iv (own_flag n), .unset, .unset] [(.int ((n.toUInt32 >>> ((16 : Int32) &&& 31).toUInt32).toInt32))])) _
            refine XS.ifNo X12.here hx rfl (hb hby at_85) rfl ((if0 _ _).trans (teq hc85).2) ?_
            show Steps p.tables e below (T12.setTop (mkF m 88 #[iv p0, iv p1, iv (p1 &&& (3 : Int32)), iv ((((p1.toUInt32 >>> ((2 : Int32) &&& 31).toUInt32).toInt32) &&& (3 : Int32)) - (1 : Int32)), iv n, iv (own_flag n), .unset, .unset] [])) _
            refine XS.iconst X12.here hx rfl (hb hby at_88) ?_
            show Steps p.tables e below (T12.setTop (mkF m 89 #[iv p0, iv p1, iv (p1 &&& (3 : Int32)), iv ((((p1.toUInt32 >>> ((2 : Int32) &&& 31).toUInt32).toInt32) &&& (3 : Int32)) - (1 : Int32)), iv n, iv (own_flag n), .unset, .unset] [(.int (2 : Int32))])) _
            refine XS.istore X12.here hx rfl (hb hby at_89) rfl (l' := #[iv p0, iv p1, iv (p1 &&& (3 : Int32)), iv ((((p1.toUInt32 >>> ((2 : Int32) &&& 31).toUInt32).toInt32) &&& (3 : Int32)) - (1 : Int32)), iv n, iv (own_flag n), iv (2 : Int32), .unset]) rfl ?_
            show Steps p.tables e below (T12.setTop (mkF m 91 #[iv p0, iv p1, iv (p1 &&& (3 : Int32)), iv ((((p1.toUInt32 >>> ((2 : Int32) &&& 31).toUInt32).toInt32) &&& (3 : Int32)) - (1 : Int32)), iv n, iv (own_flag n), iv (2 : Int32), .unset] [])) _
            refine XS.goto X12.here hx rfl (pc0 := 91) (pc' := 97) rfl (hb hby at_91) (by decide) (by decide) ?_
            exact kt
          exact ⟨(2 : Int32), Or.inr (Or.inr (Or.inl ⟨hc63, hc71, hc85, rfl⟩)), pre19⟩
        · have pre20 : ∀ t, Steps p.tables e below (T12.setTop (mkF m 97 #[iv p0, iv p1, iv (p1 &&& (3 : Int32)), iv ((((p1.toUInt32 >>> ((2 : Int32) &&& 31).toUInt32).toInt32) &&& (3 : Int32)) - (1 : Int32)), iv n, iv (own_flag n), iv (4 : Int32), .unset] [])) t → Steps p.tables e below (s₁.setTop (entryFrame m #[(.int p0), (.int p1)] maxLocals)) t := by
            intro t kt
            refine pre18 _ ?_
            show Steps p.tables e below (T12.setTop (mkF m 85 #[iv p0, iv p1, iv (p1 &&& (3 : Int32)), iv ((((p1.toUInt32 >>> ((2 : Int32) &&& 31).toUInt32).toInt32) &&& (3 : Int32)) - (1 : Int32)), iv n, iv (own_flag n), .unset, .unset] [(.int ((n.toUInt32 >>> ((16 : Int32) &&& 31).toUInt32).toInt32))])) _
            refine XS.ifYes X12.here hx rfl (pc0 := 85) (pc' := 94) rfl (hb hby at_85) rfl ((if0 _ _).trans (feq hc85).2) (by decide) (by decide) ?_
            show Steps p.tables e below (T12.setTop (mkF m 94 #[iv p0, iv p1, iv (p1 &&& (3 : Int32)), iv ((((p1.toUInt32 >>> ((2 : Int32) &&& 31).toUInt32).toInt32) &&& (3 : Int32)) - (1 : Int32)), iv n, iv (own_flag n), .unset, .unset] [])) _
            refine XS.iconst X12.here hx rfl (hb hby at_94) ?_
            show Steps p.tables e below (T12.setTop (mkF m 95 #[iv p0, iv p1, iv (p1 &&& (3 : Int32)), iv ((((p1.toUInt32 >>> ((2 : Int32) &&& 31).toUInt32).toInt32) &&& (3 : Int32)) - (1 : Int32)), iv n, iv (own_flag n), .unset, .unset] [(.int (4 : Int32))])) _
            refine XS.istore X12.here hx rfl (hb hby at_95) rfl (l' := #[iv p0, iv p1, iv (p1 &&& (3 : Int32)), iv ((((p1.toUInt32 >>> ((2 : Int32) &&& 31).toUInt32).toInt32) &&& (3 : Int32)) - (1 : Int32)), iv n, iv (own_flag n), iv (4 : Int32), .unset]) rfl ?_
            exact kt
          exact ⟨(4 : Int32), Or.inr (Or.inr (Or.inr (⟨hc63, hc71, hc85, rfl⟩))), pre20⟩
  obtain ⟨ef, he_, pre29⟩ : ∃ (ef : Int32), (((w = (1 : Int32)) ∧ ef = (8 : Int32)) ∨ ((¬ (w = (1 : Int32))) ∧ (w = (2 : Int32)) ∧ ef = (16 : Int32)) ∨ ((¬ (w = (1 : Int32))) ∧ (¬ (w = (2 : Int32))) ∧ ef = (0 : Int32))) ∧ ∀ t, Steps p.tables e below (T12.setTop (mkF m 126 #[iv p0, iv p1, iv (p1 &&& (3 : Int32)), iv ((((p1.toUInt32 >>> ((2 : Int32) &&& 31).toUInt32).toInt32) &&& (3 : Int32)) - (1 : Int32)), iv n, iv (own_flag n), iv w, iv ef] [])) t → Steps p.tables e below (s₁.setTop (entryFrame m #[(.int p0), (.int p1)] maxLocals)) t := by
    have pre23 : ∀ t, Steps p.tables e below (T12.setTop (mkF m 100 #[iv p0, iv p1, iv (p1 &&& (3 : Int32)), iv ((((p1.toUInt32 >>> ((2 : Int32) &&& 31).toUInt32).toInt32) &&& (3 : Int32)) - (1 : Int32)), iv n, iv (own_flag n), iv w, .unset] [(.int (1 : Int32)), (.int w)])) t → Steps p.tables e below (s₁.setTop (entryFrame m #[(.int p0), (.int p1)] maxLocals)) t := by
      intro t kt
      refine pre22 _ ?_
      show Steps p.tables e below (T12.setTop (mkF m 97 #[iv p0, iv p1, iv (p1 &&& (3 : Int32)), iv ((((p1.toUInt32 >>> ((2 : Int32) &&& 31).toUInt32).toInt32) &&& (3 : Int32)) - (1 : Int32)), iv n, iv (own_flag n), iv w, .unset] [])) _
      refine XS.iload X12.here hx rfl (hb hby at_97) rfl ?_
      show Steps p.tables e below (T12.setTop (mkF m 99 #[iv p0, iv p1, iv (p1 &&& (3 : Int32)), iv ((((p1.toUInt32 >>> ((2 : Int32) &&& 31).toUInt32).toInt32) &&& (3 : Int32)) - (1 : Int32)), iv n, iv (own_flag n), iv w, .unset] [(.int w)])) _
      refine XS.iconst X12.here hx rfl (hb hby at_99) ?_
      exact kt
    by_cases hc100 : w = (1 : Int32)
    · have pre24 : ∀ t, Steps p.tables e below (T12.setTop (mkF m 126 #[iv p0, iv p1, iv (p1 &&& (3 : Int32)), iv ((((p1.toUInt32 >>> ((2 : Int32) &&& 31).toUInt32).toInt32) &&& (3 : Int32)) - (1 : Int32)), iv n, iv (own_flag n), iv w, iv (8 : Int32)] [])) t → Steps p.tables e below (s₁.setTop (entryFrame m #[(.int p0), (.int p1)] maxLocals)) t := by
        intro t kt
        refine pre23 _ ?_
        show Steps p.tables e below (T12.setTop (mkF m 100 #[iv p0, iv p1, iv (p1 &&& (3 : Int32)), iv ((((p1.toUInt32 >>> ((2 : Int32) &&& 31).toUInt32).toInt32) &&& (3 : Int32)) - (1 : Int32)), iv n, iv (own_flag n), iv w, .unset] [(.int (1 : Int32)), (.int w)])) _
        refine XS.icmpNo X12.here hx rfl (hb hby at_100) rfl (teq hc100).2 ?_
        show Steps p.tables e below (T12.setTop (mkF m 103 #[iv p0, iv p1, iv (p1 &&& (3 : Int32)), iv ((((p1.toUInt32 >>> ((2 : Int32) &&& 31).toUInt32).toInt32) &&& (3 : Int32)) - (1 : Int32)), iv n, iv (own_flag n), iv w, .unset] [])) _
        refine XS.bipush X12.here hx rfl (hb hby at_103) ?_
        show Steps p.tables e below (T12.setTop (mkF m 105 #[iv p0, iv p1, iv (p1 &&& (3 : Int32)), iv ((((p1.toUInt32 >>> ((2 : Int32) &&& 31).toUInt32).toInt32) &&& (3 : Int32)) - (1 : Int32)), iv n, iv (own_flag n), iv w, .unset] [(.int (8 : Int32))])) _
        refine XS.istore X12.here hx rfl (hb hby at_105) rfl (l' := #[iv p0, iv p1, iv (p1 &&& (3 : Int32)), iv ((((p1.toUInt32 >>> ((2 : Int32) &&& 31).toUInt32).toInt32) &&& (3 : Int32)) - (1 : Int32)), iv n, iv (own_flag n), iv w, iv (8 : Int32)]) rfl ?_
        show Steps p.tables e below (T12.setTop (mkF m 107 #[iv p0, iv p1, iv (p1 &&& (3 : Int32)), iv ((((p1.toUInt32 >>> ((2 : Int32) &&& 31).toUInt32).toInt32) &&& (3 : Int32)) - (1 : Int32)), iv n, iv (own_flag n), iv w, iv (8 : Int32)] [])) _
        refine XS.goto X12.here hx rfl (pc0 := 107) (pc' := 126) rfl (hb hby at_107) (by decide) (by decide) ?_
        exact kt
      exact ⟨(8 : Int32), Or.inl ⟨hc100, rfl⟩, pre24⟩
    · have pre25 : ∀ t, Steps p.tables e below (T12.setTop (mkF m 113 #[iv p0, iv p1, iv (p1 &&& (3 : Int32)), iv ((((p1.toUInt32 >>> ((2 : Int32) &&& 31).toUInt32).toInt32) &&& (3 : Int32)) - (1 : Int32)), iv n, iv (own_flag n), iv w, .unset] [(.int (2 : Int32)), (.int w)])) t → Steps p.tables e below (s₁.setTop (entryFrame m #[(.int p0), (.int p1)] maxLocals)) t := by
        intro t kt
        refine pre23 _ ?_
        show Steps p.tables e below (T12.setTop (mkF m 100 #[iv p0, iv p1, iv (p1 &&& (3 : Int32)), iv ((((p1.toUInt32 >>> ((2 : Int32) &&& 31).toUInt32).toInt32) &&& (3 : Int32)) - (1 : Int32)), iv n, iv (own_flag n), iv w, .unset] [(.int (1 : Int32)), (.int w)])) _
        refine XS.icmpYes X12.here hx rfl (pc0 := 100) (pc' := 110) rfl (hb hby at_100) rfl (feq hc100).2 (by decide) (by decide) ?_
        show Steps p.tables e below (T12.setTop (mkF m 110 #[iv p0, iv p1, iv (p1 &&& (3 : Int32)), iv ((((p1.toUInt32 >>> ((2 : Int32) &&& 31).toUInt32).toInt32) &&& (3 : Int32)) - (1 : Int32)), iv n, iv (own_flag n), iv w, .unset] [])) _
        refine XS.iload X12.here hx rfl (hb hby at_110) rfl ?_
        show Steps p.tables e below (T12.setTop (mkF m 112 #[iv p0, iv p1, iv (p1 &&& (3 : Int32)), iv ((((p1.toUInt32 >>> ((2 : Int32) &&& 31).toUInt32).toInt32) &&& (3 : Int32)) - (1 : Int32)), iv n, iv (own_flag n), iv w, .unset] [(.int w)])) _
        refine XS.iconst X12.here hx rfl (hb hby at_112) ?_
        exact kt
      by_cases hc113 : w = (2 : Int32)
      · have pre26 : ∀ t, Steps p.tables e below (T12.setTop (mkF m 126 #[iv p0, iv p1, iv (p1 &&& (3 : Int32)), iv ((((p1.toUInt32 >>> ((2 : Int32) &&& 31).toUInt32).toInt32) &&& (3 : Int32)) - (1 : Int32)), iv n, iv (own_flag n), iv w, iv (16 : Int32)] [])) t → Steps p.tables e below (s₁.setTop (entryFrame m #[(.int p0), (.int p1)] maxLocals)) t := by
          intro t kt
          refine pre25 _ ?_
          show Steps p.tables e below (T12.setTop (mkF m 113 #[iv p0, iv p1, iv (p1 &&& (3 : Int32)), iv ((((p1.toUInt32 >>> ((2 : Int32) &&& 31).toUInt32).toInt32) &&& (3 : Int32)) - (1 : Int32)), iv n, iv (own_flag n), iv w, .unset] [(.int (2 : Int32)), (.int w)])) _
          refine XS.icmpNo X12.here hx rfl (hb hby at_113) rfl (teq hc113).2 ?_
          show Steps p.tables e below (T12.setTop (mkF m 116 #[iv p0, iv p1, iv (p1 &&& (3 : Int32)), iv ((((p1.toUInt32 >>> ((2 : Int32) &&& 31).toUInt32).toInt32) &&& (3 : Int32)) - (1 : Int32)), iv n, iv (own_flag n), iv w, .unset] [])) _
          refine XS.bipush X12.here hx rfl (hb hby at_116) ?_
          show Steps p.tables e below (T12.setTop (mkF m 118 #[iv p0, iv p1, iv (p1 &&& (3 : Int32)), iv ((((p1.toUInt32 >>> ((2 : Int32) &&& 31).toUInt32).toInt32) &&& (3 : Int32)) - (1 : Int32)), iv n, iv (own_flag n), iv w, .unset] [(.int (16 : Int32))])) _
          refine XS.istore X12.here hx rfl (hb hby at_118) rfl (l' := #[iv p0, iv p1, iv (p1 &&& (3 : Int32)), iv ((((p1.toUInt32 >>> ((2 : Int32) &&& 31).toUInt32).toInt32) &&& (3 : Int32)) - (1 : Int32)), iv n, iv (own_flag n), iv w, iv (16 : Int32)]) rfl ?_
          show Steps p.tables e below (T12.setTop (mkF m 120 #[iv p0, iv p1, iv (p1 &&& (3 : Int32)), iv ((((p1.toUInt32 >>> ((2 : Int32) &&& 31).toUInt32).toInt32) &&& (3 : Int32)) - (1 : Int32)), iv n, iv (own_flag n), iv w, iv (16 : Int32)] [])) _
          refine XS.goto X12.here hx rfl (pc0 := 120) (pc' := 126) rfl (hb hby at_120) (by decide) (by decide) ?_
          exact kt
        exact ⟨(16 : Int32), Or.inr (Or.inl ⟨hc100, hc113, rfl⟩), pre26⟩
      · have pre27 : ∀ t, Steps p.tables e below (T12.setTop (mkF m 126 #[iv p0, iv p1, iv (p1 &&& (3 : Int32)), iv ((((p1.toUInt32 >>> ((2 : Int32) &&& 31).toUInt32).toInt32) &&& (3 : Int32)) - (1 : Int32)), iv n, iv (own_flag n), iv w, iv (0 : Int32)] [])) t → Steps p.tables e below (s₁.setTop (entryFrame m #[(.int p0), (.int p1)] maxLocals)) t := by
          intro t kt
          refine pre25 _ ?_
          show Steps p.tables e below (T12.setTop (mkF m 113 #[iv p0, iv p1, iv (p1 &&& (3 : Int32)), iv ((((p1.toUInt32 >>> ((2 : Int32) &&& 31).toUInt32).toInt32) &&& (3 : Int32)) - (1 : Int32)), iv n, iv (own_flag n), iv w, .unset] [(.int (2 : Int32)), (.int w)])) _
          refine XS.icmpYes X12.here hx rfl (pc0 := 113) (pc' := 123) rfl (hb hby at_113) rfl (feq hc113).2 (by decide) (by decide) ?_
          show Steps p.tables e below (T12.setTop (mkF m 123 #[iv p0, iv p1, iv (p1 &&& (3 : Int32)), iv ((((p1.toUInt32 >>> ((2 : Int32) &&& 31).toUInt32).toInt32) &&& (3 : Int32)) - (1 : Int32)), iv n, iv (own_flag n), iv w, .unset] [])) _
          refine XS.iconst X12.here hx rfl (hb hby at_123) ?_
          show Steps p.tables e below (T12.setTop (mkF m 124 #[iv p0, iv p1, iv (p1 &&& (3 : Int32)), iv ((((p1.toUInt32 >>> ((2 : Int32) &&& 31).toUInt32).toInt32) &&& (3 : Int32)) - (1 : Int32)), iv n, iv (own_flag n), iv w, .unset] [(.int (0 : Int32))])) _
          refine XS.istore X12.here hx rfl (hb hby at_124) rfl (l' := #[iv p0, iv p1, iv (p1 &&& (3 : Int32)), iv ((((p1.toUInt32 >>> ((2 : Int32) &&& 31).toUInt32).toInt32) &&& (3 : Int32)) - (1 : Int32)), iv n, iv (own_flag n), iv w, iv (0 : Int32)]) rfl ?_
          exact kt
        exact ⟨(0 : Int32), Or.inr (Or.inr (⟨hc100, hc113, rfl⟩)), pre27⟩
  have pre30 : ∀ t, Steps p.tables e below (T12.setTop (mkF m 130 #[iv p0, iv p1, iv (p1 &&& (3 : Int32)), iv ((((p1.toUInt32 >>> ((2 : Int32) &&& 31).toUInt32).toInt32) &&& (3 : Int32)) - (1 : Int32)), iv n, iv (own_flag n), iv w, iv ef] [(.int ef), (.int (own_flag n))])) t → Steps p.tables e below (s₁.setTop (entryFrame m #[(.int p0), (.int p1)] maxLocals)) t := by
    intro t kt
    refine pre29 _ ?_
    show Steps p.tables e below (T12.setTop (mkF m 126 #[iv p0, iv p1, iv (p1 &&& (3 : Int32)), iv ((((p1.toUInt32 >>> ((2 : Int32) &&& 31).toUInt32).toInt32) &&& (3 : Int32)) - (1 : Int32)), iv n, iv (own_flag n), iv w, iv ef] [])) _
    refine XS.iload X12.here hx rfl (hb hby at_126) rfl ?_
    show Steps p.tables e below (T12.setTop (mkF m 128 #[iv p0, iv p1, iv (p1 &&& (3 : Int32)), iv ((((p1.toUInt32 >>> ((2 : Int32) &&& 31).toUInt32).toInt32) &&& (3 : Int32)) - (1 : Int32)), iv n, iv (own_flag n), iv w, iv ef] [(.int (own_flag n))])) _
    refine XS.iload X12.here hx rfl (hb hby at_128) rfl ?_
    exact kt
  by_cases hc130 : (own_flag n) = ef
  · have pre31 : ∀ t, Steps p.tables e below (T12.setTop (mkF m 135 #[iv p0, iv p1, iv (p1 &&& (3 : Int32)), iv ((((p1.toUInt32 >>> ((2 : Int32) &&& 31).toUInt32).toInt32) &&& (3 : Int32)) - (1 : Int32)), iv n, iv (own_flag n), iv w, iv ef] [(.int (own_flag n))])) t → Steps p.tables e below (s₁.setTop (entryFrame m #[(.int p0), (.int p1)] maxLocals)) t := by
      intro t kt
      refine pre30 _ ?_
      show Steps p.tables e below (T12.setTop (mkF m 130 #[iv p0, iv p1, iv (p1 &&& (3 : Int32)), iv ((((p1.toUInt32 >>> ((2 : Int32) &&& 31).toUInt32).toInt32) &&& (3 : Int32)) - (1 : Int32)), iv n, iv (own_flag n), iv w, iv ef] [(.int ef), (.int (own_flag n))])) _
      refine XS.icmpNo X12.here hx rfl (hb hby at_130) rfl (teq hc130).2 ?_
      show Steps p.tables e below (T12.setTop (mkF m 133 #[iv p0, iv p1, iv (p1 &&& (3 : Int32)), iv ((((p1.toUInt32 >>> ((2 : Int32) &&& 31).toUInt32).toInt32) &&& (3 : Int32)) - (1 : Int32)), iv n, iv (own_flag n), iv w, iv ef] [])) _
      refine XS.iload X12.here hx rfl (hb hby at_133) rfl ?_
      exact kt
    obtain ⟨_, _, ⟨T32, L32, k32, n32⟩, -, X32, ⟨Lc32, hQ32, l32, y32, z32⟩, st32⟩ := Jvm.LawKit.callS X12 hx (y := (⟨"com/example/bytewright/bytewright/grid/ObjectLayout", "offsetWidth", "(I)I"⟩ : MethodName)) hown (mvT hZ (hw _ (List.mem_of_getElem? (i := 4) rfl))) (mvT hZ (hw _ (List.mem_of_getElem? (i := 5) rfl))) (mvT hZ (hw _ (List.mem_of_getElem? (i := 2) rfl))) (mvT hZ (hw _ (List.mem_of_getElem? (i := 6) rfl))) (by decide) (backOf (W := 0) (rm2 l Z a0 hw [] (own_flag n) h0 n0 (Nat.le_trans Z0 (Keep.refl h0 []).1)) hZ (hw _ (List.mem_of_getElem? (i := 6) rfl)) (hw _ (List.mem_of_getElem? (i := 2) rfl)) (by decide) (by decide)) (g := (mkF m 135 #[iv p0, iv p1, iv (p1 &&& (3 : Int32)), iv ((((p1.toUInt32 >>> ((2 : Int32) &&& 31).toUInt32).toInt32) &&& (3 : Int32)) - (1 : Int32)), iv n, iv (own_flag n), iv w, iv ef] [(.int (own_flag n))])) rfl (by rw [hml]; rfl) (argsL := [(.int (own_flag n))]) (rest := []) (lenOf pd2 rfl) rfl (by show 2 * 0 + _ ≤ _; exact Nat.le_of_eq rfl) (hb hby at_135) (fun _ _ => ⟨rfl, hh12, (by decide : 0 + 0 ≤ _), (by decide : 0 + 0 ≤ _)⟩)
    dsimp only [Pt.U, Pt.locs, Pt.cells, Pt.slots] at X32 l32 y32 z32 st32 hQ32
    subst l32 y32 z32
    obtain ⟨rfl, N32q, hh32⟩ := hQ32
    have N32 := Fr.app N12 N32q
    have pre33 : ∀ t, Steps p.tables e below (T32.setTop (mkF m 140 #[iv p0, iv p1, iv (p1 &&& (3 : Int32)), iv ((((p1.toUInt32 >>> ((2 : Int32) &&& 31).toUInt32).toInt32) &&& (3 : Int32)) - (1 : Int32)), iv n, iv (own_flag n), iv w, iv ef] [(.int w), (.int (own_width (own_flag n)))])) t → Steps p.tables e below (s₁.setTop (entryFrame m #[(.int p0), (.int p1)] maxLocals)) t := by
      intro t kt
      refine pre31 _ ?_
      show Steps p.tables e below (T12.setTop (mkF m 135 #[iv p0, iv p1, iv (p1 &&& (3 : Int32)), iv ((((p1.toUInt32 >>> ((2 : Int32) &&& 31).toUInt32).toInt32) &&& (3 : Int32)) - (1 : Int32)), iv n, iv (own_flag n), iv w, iv ef] [(.int (own_flag n))])) _
      refine st32 _ ?_
      show Steps p.tables e below (T32.setTop (mkF m 138 #[iv p0, iv p1, iv (p1 &&& (3 : Int32)), iv ((((p1.toUInt32 >>> ((2 : Int32) &&& 31).toUInt32).toInt32) &&& (3 : Int32)) - (1 : Int32)), iv n, iv (own_flag n), iv w, iv ef] [(.int (own_width (own_flag n)))])) _
      refine XS.iload X32.here hx rfl (hb hby at_138) rfl ?_
      exact kt
    by_cases hc140 : (own_width (own_flag n)) = w
    · have pre34 : ∀ t, Steps p.tables e below (T32.setTop (mkF m 148 #[iv p0, iv p1, iv (p1 &&& (3 : Int32)), iv ((((p1.toUInt32 >>> ((2 : Int32) &&& 31).toUInt32).toInt32) &&& (3 : Int32)) - (1 : Int32)), iv n, iv (own_flag n), iv w, iv ef] [(.int (1 : Int32))])) t → Steps p.tables e below (s₁.setTop (entryFrame m #[(.int p0), (.int p1)] maxLocals)) t := by
        intro t kt
        refine pre33 _ ?_
        show Steps p.tables e below (T32.setTop (mkF m 140 #[iv p0, iv p1, iv (p1 &&& (3 : Int32)), iv ((((p1.toUInt32 >>> ((2 : Int32) &&& 31).toUInt32).toInt32) &&& (3 : Int32)) - (1 : Int32)), iv n, iv (own_flag n), iv w, iv ef] [(.int w), (.int (own_width (own_flag n)))])) _
        refine XS.icmpNo X32.here hx rfl (hb hby at_140) rfl (teq hc140).2 ?_
        show Steps p.tables e below (T32.setTop (mkF m 143 #[iv p0, iv p1, iv (p1 &&& (3 : Int32)), iv ((((p1.toUInt32 >>> ((2 : Int32) &&& 31).toUInt32).toInt32) &&& (3 : Int32)) - (1 : Int32)), iv n, iv (own_flag n), iv w, iv ef] [])) _
        refine XS.iconst X32.here hx rfl (hb hby at_143) ?_
        show Steps p.tables e below (T32.setTop (mkF m 144 #[iv p0, iv p1, iv (p1 &&& (3 : Int32)), iv ((((p1.toUInt32 >>> ((2 : Int32) &&& 31).toUInt32).toInt32) &&& (3 : Int32)) - (1 : Int32)), iv n, iv (own_flag n), iv w, iv ef] [(.int (1 : Int32))])) _
        refine XS.goto X32.here hx rfl (pc0 := 144) (pc' := 148) rfl (hb hby at_144) (by decide) (by decide) ?_
        exact kt
      obtain ⟨fs, hr, hrun, hended, hW, hsame⟩ := X32.leave (v := some (.int (1 : Int32))) (fun h => by rw [Bd.returns] at h; cases h)
      refine ⟨_, _, pre34 _ ?_, hrun, hended, _, _, rfl, ?_, ⟨_, rfl⟩, hW, hsame.mono (by decide) (by decide)⟩
      · show Steps p.tables e below (T32.setTop (mkF m 148 #[iv p0, iv p1, iv (p1 &&& (3 : Int32)), iv ((((p1.toUInt32 >>> ((2 : Int32) &&& 31).toUInt32).toInt32) &&& (3 : Int32)) - (1 : Int32)), iv n, iv (own_flag n), iv w, iv ef] [(.int (1 : Int32))])) _
        exact retN X32 hx (t := .boolean) Bd.returns (by simp) (hb hby at_148) hr
      · show Q0 Z p0 p1 h0 n0 _ T32.heap _
        rw [hh32]
        exact ⟨rfl, N32⟩
    · have pre35 : ∀ t, Steps p.tables e below (T32.setTop (mkF m 148 #[iv p0, iv p1, iv (p1 &&& (3 : Int32)), iv ((((p1.toUInt32 >>> ((2 : Int32) &&& 31).toUInt32).toInt32) &&& (3 : Int32)) - (1 : Int32)), iv n, iv (own_flag n), iv w, iv ef] [(.int (0 : Int32))])) t → Steps p.tables e below (s₁.setTop (entryFrame m #[(.int p0), (.int p1)] maxLocals)) t := by
        intro t kt
        refine pre33 _ ?_
        show Steps p.tables e below (T32.setTop (mkF m 140 #[iv p0, iv p1, iv (p1 &&& (3 : Int32)), iv ((((p1.toUInt32 >>> ((2 : Int32) &&& 31).toUInt32).toInt32) &&& (3 : Int32)) - (1 : Int32)), iv n, iv (own_flag n), iv w, iv ef] [(.int w), (.int (own_width (own_flag n)))])) _
        refine XS.icmpYes X32.here hx rfl (pc0 := 140) (pc' := 147) rfl (hb hby at_140) rfl (feq hc140).2 (by decide) (by decide) ?_
        show Steps p.tables e below (T32.setTop (mkF m 147 #[iv p0, iv p1, iv (p1 &&& (3 : Int32)), iv ((((p1.toUInt32 >>> ((2 : Int32) &&& 31).toUInt32).toInt32) &&& (3 : Int32)) - (1 : Int32)), iv n, iv (own_flag n), iv w, iv ef] [])) _
        refine XS.iconst X32.here hx rfl (hb hby at_147) ?_
        exact kt
      exfalso
      exact hc140 (own_law n w ef hw_ he_).2
  · have pre36 : ∀ t, Steps p.tables e below (T12.setTop (mkF m 148 #[iv p0, iv p1, iv (p1 &&& (3 : Int32)), iv ((((p1.toUInt32 >>> ((2 : Int32) &&& 31).toUInt32).toInt32) &&& (3 : Int32)) - (1 : Int32)), iv n, iv (own_flag n), iv w, iv ef] [(.int (0 : Int32))])) t → Steps p.tables e below (s₁.setTop (entryFrame m #[(.int p0), (.int p1)] maxLocals)) t := by
      intro t kt
      refine pre30 _ ?_
      show Steps p.tables e below (T12.setTop (mkF m 130 #[iv p0, iv p1, iv (p1 &&& (3 : Int32)), iv ((((p1.toUInt32 >>> ((2 : Int32) &&& 31).toUInt32).toInt32) &&& (3 : Int32)) - (1 : Int32)), iv n, iv (own_flag n), iv w, iv ef] [(.int ef), (.int (own_flag n))])) _
      refine XS.icmpYes X12.here hx rfl (pc0 := 130) (pc' := 147) rfl (hb hby at_130) rfl (feq hc130).2 (by decide) (by decide) ?_
      show Steps p.tables e below (T12.setTop (mkF m 147 #[iv p0, iv p1, iv (p1 &&& (3 : Int32)), iv ((((p1.toUInt32 >>> ((2 : Int32) &&& 31).toUInt32).toInt32) &&& (3 : Int32)) - (1 : Int32)), iv n, iv (own_flag n), iv w, iv ef] [])) _
      refine XS.iconst X12.here hx rfl (hb hby at_147) ?_
      exact kt
    exfalso
    exact hc130 (own_law n w ef hw_ he_).1
set_option maxRecDepth 65536 in
set_option maxHeartbeats 40000000 in
theorem comes_1 {Post : Tables → Env → Array Value → State → Outcome → State → Prop} (hpost : ∀ tb e args s v u, (limb_1_1.after args s (.returned v) u = true ∧ limb_1_2.after args s (.returned v) u = true ∧ True) → FrameEnd s (.returned v) u (Jvm.fieldLocs frame_1_writes args s ++ Jvm.arrayLocs frame_1_arrays args s ++ Jvm.staticLocs frame_1_statics s) 0 0 → Post tb e args s (.returned v) u) :
    ArmFor flags0 classFile x code maxLocals ret World_1 tables_1 room_1 Calls_1 rest_1 Pre_1 Post := by
  intro l hfl _ _ p e ha hc hk s m args below hf hA hF happ hP
  obtain ⟨hcalls, hrest, hpre⟩ := hP
  obtain ⟨-, -, -, hnamed, -, -, -, hat⟩ := (Spec.applies_iff hf).mp happ
  obtain ⟨hg, hn⟩ := and_e (Cond.before_iff.mp (show (Jvm.Cond.and given_1 narrow_1).before args s = true from hpre))
  obtain ⟨gg1, gg2⟩ := and_e hg
  obtain ⟨gg3, gg4⟩ := and_e gg2
  obtain ⟨w0, w1, rfl⟩ : ∃ w0 w1 : Value, args = #[w0, w1] := by
    have hs : args.size = 2 := by simpa [Cond.value, given_1] using gg1
    obtain ⟨L⟩ := args
    match L, hs with
    | [w0, w1], _ => exact ⟨w0, w1, rfl⟩
  have hw := fun d (hd : d ∈ tables_1) => atoms_spec (ws := Jvm.Cond.code x code maxLocals ret :: tables_1) hat d (List.mem_cons_of_mem _ hd)
  have hfit : Fit s := fun {y c} hc i hi => by
    obtain ⟨ha, rfl⟩ := Array.getElem?_eq_some_iff.mp hc
    have q := List.all_eq_true.mp ((Array.all_eq_true_iff_forall_mem.mp hF) _ (Array.getElem_mem ha)) i (List.mem_range.mpr hi)
    simpa [Array.getElem?_eq_getElem hi] using q
  obtain ⟨i0, ei0⟩ := is_v gg3
  obtain rfl : w0 = (.int i0) := Option.some.inj ei0
  obtain ⟨i1, ei1⟩ := is_v gg4
  obtain rfl : w1 = (.int i1) := Option.some.inj ei1
  obtain ⟨n, o, h1, h2, h3, _, L, rfl, ⟨rfl, N⟩, hq⟩ := rm0 l s _ hw tables_1 i0 i1 s.heap s.heap.size (Nat.le_refl _) p e ha hc hk s m _ below hf ((Spec.applies_iff_loose hf).mp happ).1 ⟨rfl, State.Warmed39.refl s, rfl⟩ trivial
  refine ⟨n, _, h1, h2, h3, hpost _ _ _ _ _ _ ⟨Cond.after_iff.mpr rfl, Cond.after_iff.mpr (eq_i res_at (Term.int_eval (1)) rfl), trivial⟩ ⟨hq.1, hq.2.1, (hq.2.2.sift fun y hy => Or.inr (N y hy)).mono (by decide) (by decide)⟩⟩
theorem main_1_1 : Claimed_1_1 := comes_1 fun _ _ _ _ _ _ h hF => ⟨h.1, hF⟩
theorem main_1_2 : Claimed_1_2 := comes_1 fun _ _ _ _ _ _ h hF => ⟨h.2.1, hF⟩
end Jvm.Pilot.@@N@@
namespace Jvm.Pilot.@@N@@
open Jvm Jvm.ClassFile Sem Op Lib Jvm.Free Jvm.Stand Jvm.Pilot.@@N@@.Jvm.D
/-! MADE BY PROGRAM (witnessworld.py) out of the Statement's table words and the real class files: 9 classes; the members and pool entries that the words name. The judged class is class 1, her method 1. -/
namespace start1
open Jvm.ClassFile
def u (s : String) : CpInfo := .utf8 (stringToUtf16 s)
/-- a pool by its gaps: so many unusable entries, then the entry; so many at the end -/
def gap : Nat → List CpInfo → List CpInfo
  | 0, r => r
  | n + 1, r => .unusable :: gap n r
def poolList (es : List (Nat × CpInfo)) (last : Nat) : List CpInfo := es.foldr (fun e r => gap e.1 (e.2 :: r)) (gap last [])
def pool (es : List (Nat × CpInfo)) (last : Nat) : Array CpInfo := ⟨poolList es last⟩
def fileOf (pool : Array CpInfo) (this : Nat) (attrs : Array Attribute := #[]) (ms : Array MethodInfo := #[]) (fl : Nat := 33) (sup : Nat := 0) (ifs : Array Nat := #[]) (fds : Array FieldInfo := #[]) : ClassFile where
  minorVersion := 0
  majorVersion := 65
  constantPool := pool
  accessFlags := fl
  thisClass := this
  superClass := sup
  interfaces := ifs
  fields := fds
  methods := ms
  attributes := attrs
def plain (name : String) (sup : Option ClassId) : Class where
  name := name
  kind := .ordinary
  loader := none
  accessFlags := 33
  super := sup
  interfaces := #[]
  cf := none
  fields := #[]
  methods := #[]
  instanceTypes := #[]
  staticTypes := #[]
  resolved := #[]
  callSites := []
  init := .initialized
  statics := none
  mirror := none

def pool0 : Array CpInfo := pool [(5, u "<init>"), (0, u "()V"), (1, .class_ 10), (1, u "java/lang/Object")] 113

def k0m0 : Method := { name := "<init>", desc := "()V", sig := { parameters := [], returnType := none }, accessFlags := 1, code := none }
/-- java/lang/Object -/
def k0 : Class := { plain "java/lang/Object" none with
  accessFlags := 33
  interfaces := #[]
  cf := some (fileOf pool0 8 #[] #[{ accessFlags := 1, nameIndex := 5, descriptorIndex := 6, attributes := #[] }] 33 0 #[] #[])
  fields := #[]
  methods := #[k0m0]
  instanceTypes := #[]
  staticTypes := #[]
  resolved := Array.replicate 124 none
  statics := none }

def pool1 : Array CpInfo := pool [(2, .class_ 4), (1, u "java/lang/Object"), (0, u "<init>"), (0, u "()V"), (0, .integer 65535), (0, .methodref 9 10), (0, .class_ 11), (0, .nameAndType 12 13), (0, u "com/example/bytewright/bytewright/grid/ObjectLayout"), (0, u "offsetWidthFlag"), (0, u "(I)I"), (2, .methodref 9 17), (0, .nameAndType 18 13), (0, u "offsetWidth"), (0, .class_ 20), (0, u "com/example/bytewright/bytewright/grid/ObjectLayoutOffsetWidthFlagPinLaw"), (2, u "law"), (0, u "(II)Z")] 3

def k1m0 : Method := { name := "<init>", desc := "()V", sig := { parameters := [], returnType := none }, accessFlags := 2, code := none }
def k1c1 : Code := { maxStack := 2, maxLocals := 8, code := code, exceptionTable := #[], attributes := #[] }
def k1m1 : Method := { name := "law", desc := "(II)Z", sig := { parameters := [.int, .int], returnType := some .boolean }, accessFlags := 9, code := some k1c1 }
/-- com/example/bytewright/bytewright/grid/ObjectLayoutOffsetWidthFlagPinLaw -/
def k1 : Class := { plain "com/example/bytewright/bytewright/grid/ObjectLayoutOffsetWidthFlagPinLaw" (some 0) with
  accessFlags := 49
  interfaces := #[]
  cf := some (fileOf pool1 19 #[] #[{ accessFlags := 2, nameIndex := 5, descriptorIndex := 6, attributes := #[] }, { accessFlags := 9, nameIndex := 23, descriptorIndex := 24, attributes := #[] }] 49 2 #[] #[])
  fields := #[]
  methods := #[k1m0, k1m1]
  instanceTypes := #[]
  staticTypes := #[]
  resolved := Array.replicate 28 none
  statics := none }

def pool2 : Array CpInfo := pool [(4, .class_ 6), (1, u "java/lang/Object"), (0, u "<init>"), (0, u "()V"), (2, .integer 65535), (0, .class_ 13), (0, u "com/example/bytewright/bytewright/grid/ObjectLayout"), (0, u "HEADER_LENGTH"), (0, u "I"), (2, u "VERSION_AT"), (1, u "FLAGS_AT"), (1, u "TYPE_ID_AT"), (1, u "HASH_AT"), (1, u "LENGTH_AT"), (1, u "SCHEMA_ID_AT"), (1, u "FOOTER_AT"), (1, u "RAW_OFFSET_LENGTH"), (2, u "offsetWidth"), (0, u "(I)I"), (1, u "offsetWidthFlag")] 2

def k2m0 : Method := { name := "<init>", desc := "()V", sig := { parameters := [], returnType := none }, accessFlags := 2, code := none }
def k2c1 : Code := { maxStack := 2, maxLocals := 1, code := prog_52_method_2_code, exceptionTable := #[], attributes := #[] }
def k2m1 : Method := { name := "offsetWidth", desc := "(I)I", sig := { parameters := [.int], returnType := some .int }, accessFlags := 8, code := some k2c1 }
def k2c2 : Code := { maxStack := 2, maxLocals := 1, code := prog_52_method_3_code, exceptionTable := #[], attributes := #[] }
def k2m2 : Method := { name := "offsetWidthFlag", desc := "(I)I", sig := { parameters := [.int], returnType := some .int }, accessFlags := 8, code := some k2c2 }
/-- com/example/bytewright/bytewright/grid/ObjectLayout -/
def k2 : Class := { plain "com/example/bytewright/bytewright/grid/ObjectLayout" (some 0) with
  accessFlags := 48
  interfaces := #[]
  cf := some (fileOf pool2 12 #[] #[{ accessFlags := 2, nameIndex := 7, descriptorIndex := 8, attributes := #[] }, { accessFlags := 8, nameIndex := 35, descriptorIndex := 36, attributes := #[] }, { accessFlags := 8, nameIndex := 38, descriptorIndex := 36, attributes := #[] }] 48 4 #[] #[{ accessFlags := 24, nameIndex := 14, descriptorIndex := 15, attributes := #[] }, { accessFlags := 24, nameIndex := 18, descriptorIndex := 15, attributes := #[] }, { accessFlags := 24, nameIndex := 20, descriptorIndex := 15, attributes := #[] }, { accessFlags := 24, nameIndex := 22, descriptorIndex := 15, attributes := #[] }, { accessFlags := 24, nameIndex := 24, descriptorIndex := 15, attributes := #[] }, { accessFlags := 24, nameIndex := 26, descriptorIndex := 15, attributes := #[] }, { accessFlags := 24, nameIndex := 28, descriptorIndex := 15, attributes := #[] }, { accessFlags := 24, nameIndex := 30, descriptorIndex := 15, attributes := #[] }, { accessFlags := 24, nameIndex := 32, descriptorIndex := 15, attributes := #[] }])
  fields := #[{ name := "HEADER_LENGTH", type := .int, accessFlags := 24, slot := 0, constantValue := 0 }, { name := "VERSION_AT", type := .int, accessFlags := 24, slot := 1, constantValue := 0 }, { name := "FLAGS_AT", type := .int, accessFlags := 24, slot := 2, constantValue := 0 }, { name := "TYPE_ID_AT", type := .int, accessFlags := 24, slot := 3, constantValue := 0 }, { name := "HASH_AT", type := .int, accessFlags := 24, slot := 4, constantValue := 0 }, { name := "LENGTH_AT", type := .int, accessFlags := 24, slot := 5, constantValue := 0 }, { name := "SCHEMA_ID_AT", type := .int, accessFlags := 24, slot := 6, constantValue := 0 }, { name := "FOOTER_AT", type := .int, accessFlags := 24, slot := 7, constantValue := 0 }, { name := "RAW_OFFSET_LENGTH", type := .int, accessFlags := 24, slot := 8, constantValue := 0 }]
  methods := #[k2m0, k2m1, k2m2]
  instanceTypes := #[]
  staticTypes := #[.int, .int, .int, .int, .int, .int, .int, .int, .int]
  resolved := Array.replicate 41 none
  statics := none }

def pool3 : Array CpInfo := pool [(1, u "java/lang/Cloneable"), (0, .class_ 1), (0, u "java/lang/Object"), (0, .class_ 3)] 3

/-- java/lang/Cloneable -/
def k3 : Class := { plain "java/lang/Cloneable" (some 0) with
  accessFlags := 1537
  interfaces := #[]
  cf := some (fileOf pool3 2 #[] #[] 1537 4 #[] #[])
  fields := #[]
  methods := #[]
  instanceTypes := #[]
  staticTypes := #[]
  resolved := Array.replicate 8 none
  statics := none }

def pool4 : Array CpInfo := pool [(1, u "java/io/Serializable"), (0, .class_ 1), (0, u "java/lang/Object"), (0, .class_ 3)] 3

/-- java/io/Serializable -/
def k4 : Class := { plain "java/io/Serializable" (some 0) with
  accessFlags := 1537
  interfaces := #[]
  cf := some (fileOf pool4 2 #[] #[] 1537 4 #[] #[])
  fields := #[]
  methods := #[]
  instanceTypes := #[]
  staticTypes := #[]
  resolved := Array.replicate 8 none
  statics := none }

/-- the primitive byte -/
def k5 : Class := { plain "byte" none with kind := .primitive 'B', accessFlags := 0x411 }
/-- [B -/
def k6 : Class := { plain "[B" (some 0) with kind := .array 5 .byte, interfaces := #[3, 4], accessFlags := 1041 }

/-- the primitive int -/
def k7 : Class := { plain "int" none with kind := .primitive 'I', accessFlags := 0x411 }
/-- [I -/
def k8 : Class := { plain "[I" (some 0) with kind := .array 7 .int, interfaces := #[3, 4], accessFlags := 1041 }

def heap : Heap := #[]
def classes : Array Class := #[k0, k1, k2, k3, k4, k5, k6, k7, k8]
def interned : List (Array UInt16 × Addr) := []
def slotsUsed : Nat := 0
def theMethod : MethodId := ⟨1, 1⟩
def args0 : Array Value := #[.int 5, .int 6]
def aboutOver (below : List Frame) : State where
  vm := { classes := classes, interned := interned.toArray }
  heap := heap
  slotsUsed := slotsUsed
  threads := #[{ frames := .invoking theMethod args0 :: below }]
def below0 : List Frame := [.native { method := ⟨0, 0⟩, args := #[] }]
def about1 : State := aboutOver below0
def p0 : Program := .bare "" "" ""
def e0 : Env := launch0.env 0 0 0
theorem w_frames : about1.frames = Frame.invoking theMethod args0 :: below0 := rfl
set_option maxRecDepth 65536 in
theorem w_args : argsFit about1.vm theMethod args0 = true := by decide +kernel
set_option maxRecDepth 65536 in
theorem w_heap : heapFits about1 = true := by decide +kernel
set_option maxRecDepth 65536 in
theorem w_runnable : about1.curStatus? = some .runnable := by decide +kernel
set_option maxRecDepth 65536 in
theorem w_alone : about1.alone = true := by decide +kernel
set_option maxRecDepth 65536 in
theorem w_named : about1.methodNamed? x = some theMethod := by decide +kernel
set_option maxRecDepth 65536 in
theorem w_hears : about1.hears theMethod below0 = true := by decide +kernel
set_option maxRecDepth 65536 in
theorem w_ripe : about1.ripe theMethod args0 below0 = true := by decide +kernel
theorem w_running : about1.status = .running := rfl
set_option maxRecDepth 65536 in
theorem w_room : about1.hasRoom e0.platform room_1 = true :=
  launch0.hasRoom_least _ room_1 (by decide +kernel) (by decide +kernel) (by decide +kernel) (by decide +kernel) (by decide +kernel) (by decide +kernel)
theorem allAtoms_all (ts : List Jvm.Cond) (a : Array Jvm.Value) (st : Jvm.State) : (allAtoms ts).before a st = ts.all (fun c => c.before a st) := by
  induction ts with
  | nil => rfl
  | cons c t ih =>
    show (Jvm.Cond.and c (allAtoms t)).before a st = _
    rw [Jvm.Cond.before_and, ih, List.all_cons]
def words1 : List Jvm.Cond := Jvm.Cond.code x code maxLocals ret :: tables_1
/-- a 'code' word, met by the world's own term for the bytes: nothing is compared byte by byte -/
theorem code_word {y : MethodName} {bytes : ByteArray} {mx : Nat} {rt : Option FieldType} {a : Array Value} {s : State} {m : MethodId} {meth : Method} {c : Code} (h1 : s.methodNamed? y = some m) (h2 : s.vm.method? m = some meth) (h3 : meth.code = some c) (h4 : c.code = bytes)
    (h5 : (c.maxLocals == mx && c.exceptionTable.isEmpty && decide (c.maxStack ≤ mostOperands) && decide (meth.sig.returnType = rt) && !meth.locks && decide (parseMethodDescriptor y.desc = some meth.sig)) = true) : (Jvm.Cond.code y bytes mx rt).before a s = true := by
  simp only [Bool.and_eq_true, beq_iff_eq, Bool.not_eq_true', decide_eq_true_eq] at h5
  obtain ⟨⟨⟨⟨⟨g1, g2⟩, g3⟩, g4⟩, g5⟩, g6⟩ := h5
  simp [Cond.before, Cond.holds, Cond.value, h1, h2, h3, h4, g1, g2, g3, g4, g5, g6]
def isCode : Jvm.Cond → Bool
  | .code _ _ _ _ => true
  | _ => false
theorem all_split {L : List Jvm.Cond} {P : Jvm.Cond → Bool} (h1 : L.all (fun c => isCode c || P c) = true) (h2 : ∀ c ∈ L.filter isCode, P c = true) : L.all P = true := by
  refine List.all_eq_true.mpr fun c hc => ?_
  have h := List.all_eq_true.mp h1 c hc
  rcases Bool.eq_false_or_eq_true (isCode c) with hi | hi
  · exact h2 c (List.mem_filter.mpr ⟨hc, hi⟩)
  · simpa [hi] using h
set_option maxRecDepth 65536 in
theorem w_c0 : (Jvm.Cond.code x code maxLocals ret).before args0 about1 = true := code_word (m := ⟨1, 1⟩) (meth := k1m1) (c := k1c1) (by decide +kernel) rfl rfl rfl (by decide +kernel)
set_option maxRecDepth 65536 in
theorem w_c1 : (Jvm.Cond.code ({ cls := "com/example/bytewright/bytewright/grid/ObjectLayout", name := "offsetWidthFlag", desc := "(I)I" } : Jvm.MethodName) prog_52_method_3_code (1 : Nat) (Option.some Jvm.ClassFile.FieldType.int)).before args0 about1 = true := code_word (m := ⟨2, 2⟩) (meth := k2m2) (c := k2c2) (by decide +kernel) rfl rfl rfl (by decide +kernel)
set_option maxRecDepth 65536 in
theorem w_c2 : (Jvm.Cond.code ({ cls := "com/example/bytewright/bytewright/grid/ObjectLayout", name := "offsetWidth", desc := "(I)I" } : Jvm.MethodName) prog_52_method_2_code (1 : Nat) (Option.some Jvm.ClassFile.FieldType.int)).before args0 about1 = true := code_word (m := ⟨2, 1⟩) (meth := k2m1) (c := k2c1) (by decide +kernel) rfl rfl rfl (by decide +kernel)
def codes1 : List Jvm.Cond := [Jvm.Cond.code x code maxLocals ret, Jvm.Cond.code ({ cls := "com/example/bytewright/bytewright/grid/ObjectLayout", name := "offsetWidthFlag", desc := "(I)I" } : Jvm.MethodName) prog_52_method_3_code (1 : Nat) (Option.some Jvm.ClassFile.FieldType.int), Jvm.Cond.code ({ cls := "com/example/bytewright/bytewright/grid/ObjectLayout", name := "offsetWidth", desc := "(I)I" } : Jvm.MethodName) prog_52_method_2_code (1 : Nat) (Option.some Jvm.ClassFile.FieldType.int)]
set_option maxRecDepth 65536 in
theorem codes_eq : words1.filter isCode = codes1 := rfl
theorem w_codes : ∀ c ∈ words1.filter isCode, c.before args0 about1 = true := by
  rw [codes_eq]
  intro c hc
  simp only [codes1, List.mem_cons, List.not_mem_nil, or_false] at hc
  rcases hc with rfl | rfl | rfl
  · exact w_c0
  · exact w_c1
  · exact w_c2
set_option maxRecDepth 65536 in
theorem w_t1 : words1.all (fun c => isCode c || c.before args0 about1) = true := by decide +kernel
theorem w_tables : (allAtoms (Jvm.Cond.code x code maxLocals ret :: tables_1)).before args0 about1 = true := by
  rw [allAtoms_all]
  show words1.all (fun c => c.before args0 about1) = true
  refine all_split ?_ w_codes
  rw [w_t1]
set_option maxRecDepth 65536 in
theorem w_case : (Jvm.Cond.and given_1 narrow_1).before args0 about1 = true := by decide +kernel
theorem w_applies : (headSpec (Jvm.Cond.code x code maxLocals ret :: tables_1) room_1).applies x e0.platform about1 = true :=
  (Spec.applies_iff w_frames).mpr ⟨w_running, w_runnable, w_alone, w_named, w_hears, w_ripe, w_room, w_tables⟩
theorem atStart : AtStart classFile x code maxLocals ret World_1 tables_1 room_1 Calls_1 rest_1 Pre_1 launch0 p0 e0 about1 theMethod args0 below0 :=
  ⟨lists_1, trivial, launch0.admits_env _ _ _, launch0.least_env, fairChoices_fair.cas, fairChoices_fair.clock, w_frames, w_args, w_heap, w_applies, trivial, trivial, w_case⟩
end start1
theorem witness_1 : WitnessClaimed_1 := ⟨start1.p0, start1.e0, start1.about1, start1.theMethod, start1.args0, start1.below0, start1.atStart⟩
end Jvm.Pilot.@@N@@
