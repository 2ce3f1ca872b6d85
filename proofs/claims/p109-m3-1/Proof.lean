import JvmDerived
import JvmDerived.Pilot.@@N@@Statement
import JvmDerived.Pilot.@@N@@Code
set_option linter.unusedVariables false
set_option linter.unusedSimpArgs false
namespace Jvm.RoadKit
open Sem ClassFile Op Lib Jvm.Stand Jvm.Free Jvm.LawKit
section New
variable {p : Program} {l : Launch} {e : Env} {R : Room} {s : State} {m : MethodId} {args : Array Value} {below : List Frame} {meth : Method} {c : Code} {T : State} {locs : List Loc} {cells slots : Nat}
theorem retI (X : Stand p l e R s m args below meth c T locs cells slots) (hx : p.tables.exec = Jvm.exec) {pc : Nat} {Ls : Array Slot} {z : Int32} {rest : List Value} (hret : meth.sig.returnType = some .int) (hd : decode c.code pc = .ok (.ireturn, 1)) {fs : List Frame}
    (hl : ∀ (f : JFrame) (acts : List Action), f.method = m → f.locked = none → f.entered = [] → (doReturn e (T.setTop f) acts (some (.int z))).1 = T.setFrames fs) : Steps p.tables e below (T.setTop (mkF m pc Ls (.int z :: rest))) (T.setFrames fs) := by
  have hm' : T.vm.method? m = some meth := X.method'
  have hn : narrow .int (.int z) = .int z := rfl
  show Steps p.tables e below (T.setTop { method := m, pc := pc, locals := Ls, stack := _ :: rest, locked := none }) _
  jvm_step X.here [X.here.top, hx, hd, hm', hret, hn]
  first | (intro acts; rw [hl _ acts rfl rfl rfl]) | rw [hl _ _ rfl rfl rfl]
  exact Steps.refl _
end New
end Jvm.RoadKit

namespace Jvm.Pilot.@@N@@
open Jvm Jvm.ClassFile Sem Op Lib Jvm.Free Jvm.Stand Jvm.LawKit Jvm.RoadKit Bundle Jvm.Pilot.@@N@@.Jvm.D
def own_f (q0 : Int64) : Int32 := if (lcmpW q0 (q0.toInt32.toInt64)) = (0 : Int32) then 1 else 0
theorem own_fits (x : Int64) : own_f x = if -2147483648 ≤ x.toInt ∧ x.toInt ≤ 2147483647 then 1 else 0 := by
  unfold own_f
  have h1 := lw_eq x x.toInt32.toInt64
  have h2 := c_l2i x
  have h3 := c_i2l x.toInt32
  have h4 := rng32 x.toInt32
  have h5 : x = x.toInt32.toInt64 ↔ x.toInt = x.toInt32.toInt := by
    rw [← Int64.toInt_inj, h3]
  by_cases hc : -2147483648 ≤ x.toInt ∧ x.toInt ≤ 2147483647
  · rw [if_pos hc, if_pos]
    rw [h1, h5]
    omega
  · rw [if_neg hc, if_neg]
    rw [h1, h5]
    omega
theorem pn0 : plainName "com/example/quadvar/quadvar/model/IntValue" = true := by first | (simp [plainName, overriddenIn]; done) | decide +kernel
theorem d1_0 : decode prog_30_method_3_code 0 = .ok (.lload_n 0, 1) := by decide +kernel
theorem d1_1 : decode prog_30_method_3_code 1 = .ok (.lload_n 0, 1) := by decide +kernel
theorem d1_2 : decode prog_30_method_3_code 2 = .ok (.l2i, 1) := by decide +kernel
theorem d1_3 : decode prog_30_method_3_code 3 = .ok (.i2l, 1) := by decide +kernel
theorem d1_4 : decode prog_30_method_3_code 4 = .ok (.lcmp, 1) := by decide +kernel
theorem d1_5 : decode prog_30_method_3_code 5 = .ok (.ifCond .ne 7, 3) := by decide +kernel
theorem d1_8 : decode prog_30_method_3_code 8 = .ok (.iconst 1, 1) := by decide +kernel
theorem d1_9 : decode prog_30_method_3_code 9 = .ok (.goto 4, 3) := by decide +kernel
theorem d1_13 : decode prog_30_method_3_code 13 = .ok (.ireturn, 1) := by decide +kernel
theorem d1_12 : decode prog_30_method_3_code 12 = .ok (.iconst 0, 1) := by decide +kernel
theorem ef_1 (m : MethodId) (x0 : Int64) : entryFrame m #[(.long x0)] 2 = mkF m 0 #[.val (.long x0), .second] [] := by first | (simp [entryFrame, mkF, argsToLocals, Value.category]; done) | rfl
def Q1 (Z : State) (q0 : Int64) (h0 : Heap) (n0 : Nat) (v : Option Value) (h : Heap) (L : List Loc) : Prop := v = some (.int (own_f q0)) ∧ Fr n0 L ∧ h = h0
set_option maxRecDepth 65536 in
set_option maxHeartbeats 40000000 in
theorem rm1 (l : Launch) (Z : State) (a0 : Array Value) (hw : ∀ d ∈ tables_1, d.before a0 Z = true) (ws : List Jvm.Cond) (q0 : Int64) (h0 : Heap) (n0 : Nat) (Z0 : n0 ≤ h0.size) :
    MetFree l (⟨"com/example/quadvar/quadvar/model/IntValue", "fits32Bits", "(J)Z"⟩ : MethodName) (head1 (Jvm.Cond.code (⟨"com/example/quadvar/quadvar/model/IntValue", "fits32Bits", "(J)Z"⟩ : MethodName) prog_30_method_3_code 2 (some .boolean) :: ws) ({ frames := 0, cells := 0, slots := 0, locals := 0 } : Room)) (fun a U => a = #[(.long q0)] ∧ Z.Warmed39 U.vm ∧ U.heap = h0) (fun _ _ _ _ _ => True) (fun _ U o U' => ∃ v L, o = .returned v ∧ Q1 Z q0 h0 n0 v U'.heap L ∧ FrameEnd U o U' L ({ frames := 0, cells := 0, slots := 0, locals := 0 } : Room).cells ({ frames := 0, cells := 0, slots := 0, locals := 0 } : Room).slots) := by
  refine MetFree.of_bodySF (plainFor_of_name pn0) hisR ?_
  intro p e s m args below meth c s₁ Bd hml0 hP hK
  obtain ⟨rfl, hZ, hh⟩ := hP
  have hx := Bd.exec
  have hby := Bd.bytes
  have hml : c.maxLocals = 2 := hml0
  have hown : s.vm.findClass "com/example/quadvar/quadvar/model/IntValue" = some m.cls := findClass_of_methodNamed Bd.named
  have hnm := (name_of_methodNamed Bd.named Bd.method).1
  have X0 : Stand p l e ({ frames := 0, cells := 0, slots := 0, locals := 0 } : Room) s m #[(.long q0)] below meth c s₁ [] 0 0 := Stand.of_body Bd
  have e0 : s₁.heap = h0 := by rw [← hh, Bd.state]; rfl
  have N0 := Fr.nil n0
  have pre0 : ∀ t, Steps p.tables e below (s₁.setTop (mkF m 0 #[.val (.long q0), .second] [])) t → Steps p.tables e below (s₁.setTop (entryFrame m #[(.long q0)] 2)) t := fun t k => castTop (ef_1 m q0) k
  have pre1 : ∀ t, Steps p.tables e below (s₁.setTop (mkF m 5 #[.val (.long q0), .second] [(.int (lcmpW q0 ((q0.toInt32).toInt64)))])) t → Steps p.tables e below (s₁.setTop (entryFrame m #[(.long q0)] 2)) t := by
    intro t kt
    refine pre0 _ ?_
    show Steps p.tables e below (s₁.setTop (mkF m 0 #[.val (.long q0), .second] [])) _
    refine XS.lloadN X0.here hx rfl (hb hby d1_0) rfl ?_
    show Steps p.tables e below (s₁.setTop (mkF m 1 #[.val (.long q0), .second] [(.long q0)])) _
    refine XS.lloadN X0.here hx rfl (hb hby d1_1) rfl ?_
    show Steps p.tables e below (s₁.setTop (mkF m 2 #[.val (.long q0), .second] [(.long q0), (.long q0)])) _
    refine XS.l2i X0.here hx rfl (hb hby d1_2) rfl ?_
    show Steps p.tables e below (s₁.setTop (mkF m 3 #[.val (.long q0), .second] [(.int (q0.toInt32)), (.long q0)])) _
    refine XS.i2l X0.here hx rfl (hb hby d1_3) rfl ?_
    show Steps p.tables e below (s₁.setTop (mkF m 4 #[.val (.long q0), .second] [(.long ((q0.toInt32).toInt64)), (.long q0)])) _
    refine XS.lcmp X0.here hx rfl (hb hby d1_4) rfl ?_
    exact kt
  by_cases hc5 : (lcmpW q0 ((q0.toInt32).toInt64)) = (0 : Int32)
  · have pre2 : ∀ t, Steps p.tables e below (s₁.setTop (mkF m 13 #[.val (.long q0), .second] [(.int (1 : Int32))])) t → Steps p.tables e below (s₁.setTop (entryFrame m #[(.long q0)] 2)) t := by
      intro t kt
      refine pre1 _ ?_
      show Steps p.tables e below (s₁.setTop (mkF m 5 #[.val (.long q0), .second] [(.int (lcmpW q0 ((q0.toInt32).toInt64)))])) _
      refine XS.ifNo X0.here hx rfl (hb hby d1_5) rfl ((if0 _ _).trans (teq hc5).2) ?_
      show Steps p.tables e below (s₁.setTop (mkF m 8 #[.val (.long q0), .second] [])) _
      refine XS.iconst X0.here hx rfl (hb hby d1_8) ?_
      show Steps p.tables e below (s₁.setTop (mkF m 9 #[.val (.long q0), .second] [(.int (1 : Int32))])) _
      refine XS.goto X0.here hx rfl (pc0 := 9) (pc' := 13) rfl (hb hby d1_9) (by decide) (by decide) ?_
      exact kt
    obtain ⟨fs, hr, hrun, hended, hW, hsame⟩ := X0.leave (v := some (.int (1 : Int32))) (fun h => by rw [Bd.returns] at h; cases h)
    refine ⟨_, _, pre2 _ ?_, hrun, hended, _, _, rfl, ?_, ⟨_, rfl⟩, hW, hsame.mono (by decide) (by decide)⟩
    · show Steps p.tables e below (s₁.setTop (mkF m 13 #[.val (.long q0), .second] [(.int (1 : Int32))])) _
      exact retN X0 hx (t := .boolean) Bd.returns (by simp) (hb hby d1_13) hr
    · show Q1 Z q0 h0 n0 _ s₁.heap _
      rw [e0]
      exact ⟨congrArg (fun z => some (Value.int z)) (if_pos hc5).symm, N0, rfl⟩
  · have pre3 : ∀ t, Steps p.tables e below (s₁.setTop (mkF m 13 #[.val (.long q0), .second] [(.int (0 : Int32))])) t → Steps p.tables e below (s₁.setTop (entryFrame m #[(.long q0)] 2)) t := by
      intro t kt
      refine pre1 _ ?_
      show Steps p.tables e below (s₁.setTop (mkF m 5 #[.val (.long q0), .second] [(.int (lcmpW q0 ((q0.toInt32).toInt64)))])) _
      refine XS.ifYes X0.here hx rfl (pc0 := 5) (pc' := 12) rfl (hb hby d1_5) rfl ((if0 _ _).trans (feq hc5).2) (by decide) (by decide) ?_
      show Steps p.tables e below (s₁.setTop (mkF m 12 #[.val (.long q0), .second] [])) _
      refine XS.iconst X0.here hx rfl (hb hby d1_12) ?_
      exact kt
    obtain ⟨fs, hr, hrun, hended, hW, hsame⟩ := X0.leave (v := some (.int (0 : Int32))) (fun h => by rw [Bd.returns] at h; cases h)
    refine ⟨_, _, pre3 _ ?_, hrun, hended, _, _, rfl, ?_, ⟨_, rfl⟩, hW, hsame.mono (by decide) (by decide)⟩
    · show Steps p.tables e below (s₁.setTop (mkF m 13 #[.val (.long q0), .second] [(.int (0 : Int32))])) _
      exact retN X0 hx (t := .boolean) Bd.returns (by simp) (hb hby d1_13) hr
    · show Q1 Z q0 h0 n0 _ s₁.heap _
      rw [e0]
      exact ⟨congrArg (fun z => some (Value.int z)) (if_neg hc5).symm, N0, rfl⟩
theorem pn1 : plainName "com/example/quadvar/quadvar/model/IntValueFits32BitsPinLaw" = true := by first | (simp [plainName, overriddenIn]; done) | decide +kernel
theorem pd2 : parseMethodDescriptor "(J)Z" = some ⟨[.long], some .boolean⟩ := by decide +kernel
theorem ef_0 (m : MethodId) (x0 : Int64) (x1 : Int32) : entryFrame m #[(.long x0), (.int x1)] maxLocals = mkF m 0 #[.val (.long x0), .second, .val (.int x1), .unset, .unset, .unset, .unset, .unset, .unset, .unset] [] := by first | (simp [entryFrame, mkF, argsToLocals, Value.category, maxLocals]; done) | rfl
def Q0 (Z : State) (q0 : Int64) (p1 : Int32) (h0 : Heap) (n0 : Nat) (v : Option Value) (h : Heap) (L : List Loc) : Prop := v = some (.int 1) ∧ Fr n0 L
set_option maxRecDepth 65536 in
set_option maxHeartbeats 40000000 in
theorem rm0 (l : Launch) (Z : State) (a0 : Array Value) (hw : ∀ d ∈ tables_1, d.before a0 Z = true) (ws : List Jvm.Cond) (q0 : Int64) (p1 : Int32) (h0 : Heap) (n0 : Nat) (Z0 : n0 ≤ h0.size) :
    MetFree l x (head1 (Jvm.Cond.code x code maxLocals ret :: ws) room_1) (fun a U => a = #[(.long q0), (.int p1)] ∧ Z.Warmed39 U.vm ∧ U.heap = h0) (fun _ _ _ _ _ => True) (fun _ U o U' => ∃ v L, o = .returned v ∧ Q0 Z q0 p1 h0 n0 v U'.heap L ∧ FrameEnd U o U' L room_1.cells room_1.slots) := by
  refine MetFree.of_bodySF (plainFor_of_name pn1) hisR ?_
  intro p e s m args below meth c s₁ Bd hml0 hP hK
  obtain ⟨rfl, hZ, hh⟩ := hP
  have hx := Bd.exec
  have hby := Bd.bytes
  have hml : c.maxLocals = 10 := hml0
  have hown : s.vm.findClass "com/example/quadvar/quadvar/model/IntValueFits32BitsPinLaw" = some m.cls := findClass_of_methodNamed Bd.named
  have hnm := (name_of_methodNamed Bd.named Bd.method).1
  have X0 : Stand p l e room_1 s m #[(.long q0), (.int p1)] below meth c s₁ [] 0 0 := Stand.of_body Bd
  have e0 : s₁.heap = h0 := by rw [← hh, Bd.state]; rfl
  have N0 := Fr.nil n0
  have pre0 : ∀ t, Steps p.tables e below (s₁.setTop (mkF m 0 #[.val (.long q0), .second, iv p1, .unset, .unset, .unset, .unset, .unset, .unset, .unset] [])) t → Steps p.tables e below (s₁.setTop (entryFrame m #[(.long q0), (.int p1)] maxLocals)) t := fun t k => castTop (ef_0 m q0 p1) k
  obtain ⟨v4, hj5, pre5⟩ : ∃ (v4 : Int32), (True) ∧ ∀ t, Steps p.tables e below (s₁.setTop (mkF m 31 #[.val (.long q0), .second, iv p1, iv (p1 &&& (3 : Int32)), .val (.long ((((p1 >>> ((2 : Int32) &&& 31)) &&& (15 : Int32)).toInt64) - (8 : Int64))), .second, .unset, .unset, .unset, .unset] [(.int v4)])) t → Steps p.tables e below (s₁.setTop (entryFrame m #[(.long q0), (.int p1)] maxLocals)) t := by
    have pre1 : ∀ t, Steps p.tables e below (s₁.setTop (mkF m 23 #[.val (.long q0), .second, iv p1, iv (p1 &&& (3 : Int32)), .val (.long ((((p1 >>> ((2 : Int32) &&& 31)) &&& (15 : Int32)).toInt64) - (8 : Int64))), .second, .unset, .unset, .unset, .unset] [(.int ((p1 >>> ((6 : Int32) &&& 31)) &&& (1 : Int32)))])) t → Steps p.tables e below (s₁.setTop (entryFrame m #[(.long q0), (.int p1)] maxLocals)) t := by
      intro t kt
      refine pre0 _ ?_
      show Steps p.tables e below (s₁.setTop (mkF m 0 #[.val (.long q0), .second, iv p1, .unset, .unset, .unset, .unset, .unset, .unset, .unset] [])) _
      refine XS.iloadN X0.here hx rfl (hb hby at_0) rfl ?_
      show Steps p.tables e below (s₁.setTop (mkF m 1 #[.val (.long q0), .second, iv p1, .unset, .unset, .unset, .unset, .unset, .unset, .unset] [(.int p1)])) _
      refine XS.iconst X0.here hx rfl (hb hby at_1) ?_
      show Steps p.tables e below (s₁.setTop (mkF m 2 #[.val (.long q0), .second, iv p1, .unset, .unset, .unset, .unset, .unset, .unset, .unset] [(.int (3 : Int32)), (.int p1)])) _
      refine XS.iand X0.here hx rfl (hb hby at_2) rfl ?_
      show Steps p.tables e below (s₁.setTop (mkF m 3 #[.val (.long q0), .second, iv p1, .unset, .unset, .unset, .unset, .unset, .unset, .unset] [(.int (p1 &&& (3 : Int32)))])) _
      refine XS.istoreN X0.here hx rfl (hb hby at_3) rfl (l' := #[.val (.long q0), .second, iv p1, iv (p1 &&& (3 : Int32)), .unset, .unset, .unset, .unset, .unset, .unset]) rfl ?_
      show Steps p.tables e below (s₁.setTop (mkF m 4 #[.val (.long q0), .second, iv p1, iv (p1 &&& (3 : Int32)), .unset, .unset, .unset, .unset, .unset, .unset] [])) _
      refine XS.iloadN X0.here hx rfl (hb hby at_4) rfl ?_
      show Steps p.tables e below (s₁.setTop (mkF m 5 #[.val (.long q0), .second, iv p1, iv (p1 &&& (3 : Int32)), .unset, .unset, .unset, .unset, .unset, .unset] [(.int p1)])) _
      refine XS.iconst X0.here hx rfl (hb hby at_5) ?_
      show Steps p.tables e below (s₁.setTop (mkF m 6 #[.val (.long q0), .second, iv p1, iv (p1 &&& (3 : Int32)), .unset, .unset, .unset, .unset, .unset, .unset] [(.int (2 : Int32)), (.int p1)])) _
      refine XS.ishr X0.here hx rfl (hb hby at_6) rfl ?_
      show Steps p.tables e below (s₁.setTop (mkF m 7 #[.val (.long q0), .second, iv p1, iv (p1 &&& (3 : Int32)), .unset, .unset, .unset, .unset, .unset, .unset] [(.int (p1 >>> ((2 : Int32) &&& 31)))])) _
      refine XS.bipush X0.here hx rfl (hb hby at_7) ?_
      show Steps p.tables e below (s₁.setTop (mkF m 9 #[.val (.long q0), .second, iv p1, iv (p1 &&& (3 : Int32)), .unset, .unset, .unset, .unset, .unset, .unset] [(.int (15 : Int32)), (.int (p1 >>> ((2 : Int32) &&& 31)))])) _
      refine XS.iand X0.here hx rfl (hb hby at_9) rfl ?_
      show Steps p.tables e below (s₁.setTop (mkF m 10 #[.val (.long q0), .second, iv p1, iv (p1 &&& (3 : Int32)), .unset, .unset, .unset, .unset, .unset, .unset] [(.int ((p1 >>> ((2 : Int32) &&& 31)) &&& (15 : Int32)))])) _
      refine XS.i2l X0.here hx rfl (hb hby at_10) rfl ?_
      show Steps p.tables e below (s₁.setTop (mkF m 11 #[.val (.long q0), .second, iv p1, iv (p1 &&& (3 : Int32)), .unset, .unset, .unset, .unset, .unset, .unset] [(.long (((p1 >>> ((2 : Int32) &&& 31)) &&& (15 : Int32)).toInt64))])) _
      refine X0.ldc2Long hx hown (mvT hZ (hw _ (List.mem_of_getElem? (i := 0) rfl))) (g := (mkF m 11 #[.val (.long q0), .second, iv p1, iv (p1 &&& (3 : Int32)), .unset, .unset, .unset, .unset, .unset, .unset] [(.long (((p1 >>> ((2 : Int32) &&& 31)) &&& (15 : Int32)).toInt64))])) rfl (hb hby at_11) _ ?_
      show Steps p.tables e below (s₁.setTop (mkF m 14 #[.val (.long q0), .second, iv p1, iv (p1 &&& (3 : Int32)), .unset, .unset, .unset, .unset, .unset, .unset] [(.long (8 : Int64)), (.long (((p1 >>> ((2 : Int32) &&& 31)) &&& (15 : Int32)).toInt64))])) _
      refine XS.lsub X0.here hx rfl (hb hby at_14) rfl ?_
      show Steps p.tables e below (s₁.setTop (mkF m 15 #[.val (.long q0), .second, iv p1, iv (p1 &&& (3 : Int32)), .unset, .unset, .unset, .unset, .unset, .unset] [(.long ((((p1 >>> ((2 : Int32) &&& 31)) &&& (15 : Int32)).toInt64) - (8 : Int64)))])) _
      refine XS.lstore X0.here hx rfl (hb hby at_15) rfl (l' := #[.val (.long q0), .second, iv p1, iv (p1 &&& (3 : Int32)), .val (.long ((((p1 >>> ((2 : Int32) &&& 31)) &&& (15 : Int32)).toInt64) - (8 : Int64))), .second, .unset, .unset, .unset, .unset]) rfl ?_
      show Steps p.tables e below (s₁.setTop (mkF m 17 #[.val (.long q0), .second, iv p1, iv (p1 &&& (3 : Int32)), .val (.long ((((p1 >>> ((2 : Int32) &&& 31)) &&& (15 : Int32)).toInt64) - (8 : Int64))), .second, .unset, .unset, .unset, .unset] [])) _
      refine XS.iloadN X0.here hx rfl (hb hby at_17) rfl ?_
      show Steps p.tables e below (s₁.setTop (mkF m 18 #[.val (.long q0), .second, iv p1, iv (p1 &&& (3 : Int32)), .val (.long ((((p1 >>> ((2 : Int32) &&& 31)) &&& (15 : Int32)).toInt64) - (8 : Int64))), .second, .unset, .unset, .unset, .unset] [(.int p1)])) _
      refine XS.bipush X0.here hx rfl (hb hby at_18) ?_
      show Steps p.tables e below (s₁.setTop (mkF m 20 #[.val (.long q0), .second, iv p1, iv (p1 &&& (3 : Int32)), .val (.long ((((p1 >>> ((2 : Int32) &&& 31)) &&& (15 : Int32)).toInt64) - (8 : Int64))), .second, .unset, .unset, .unset, .unset] [(.int (6 : Int32)), (.int p1)])) _
      refine XS.ishr X0.here hx rfl (hb hby at_20) rfl ?_
      show Steps p.tables e below (s₁.setTop (mkF m 21 #[.val (.long q0), .second, iv p1, iv (p1 &&& (3 : Int32)), .val (.long ((((p1 >>> ((2 : Int32) &&& 31)) &&& (15 : Int32)).toInt64) - (8 : Int64))), .second, .unset, .unset, .unset, .unset] [(.int (p1 >>> ((6 : Int32) &&& 31)))])) _
      refine XS.iconst X0.here hx rfl (hb hby at_21) ?_
      show Steps p.tables e below (s₁.setTop (mkF m 22 #[.val (.long q0), .second, iv p1, iv (p1 &&& (3 : Int32)), .val (.long ((((p1 >>> ((2 : Int32) &&& 31)) &&& (15 : Int32)).toInt64) - (8 : Int64))), .second, .unset, .unset, .unset, .unset] [(.int (1 : Int32)), (.int (p1 >>> ((6 : Int32) &&& 31)))])) _
      refine XS.iand X0.here hx rfl (hb hby at_22) rfl ?_
      exact kt
    by_cases hc23 : ((p1 >>> ((6 : Int32) &&& 31)) &&& (1 : Int32)) = (0 : Int32)
    · have pre2 : ∀ t, Steps p.tables e below (s₁.setTop (mkF m 31 #[.val (.long q0), .second, iv p1, iv (p1 &&& (3 : Int32)), .val (.long ((((p1 >>> ((2 : Int32) &&& 31)) &&& (15 : Int32)).toInt64) - (8 : Int64))), .second, .unset, .unset, .unset, .unset] [(.int (0 : Int32))])) t → Steps p.tables e below (s₁.setTop (entryFrame m #[(.long q0), (.int p1)] maxLocals)) t := by
        intro t kt
        refine pre1 _ ?_
        show Steps p.tables e below (s₁.setTop (mkF m 23 #[.val (.long q0), .second, iv p1, iv (p1 &&& (3 : Int32)), .val (.long ((((p1 >>> ((2 : Int32) &&& 31)) &&& (15 : Int32)).toInt64) - (8 : Int64))), .second, .unset, .unset, .unset, .unset] [(.int ((p1 >>> ((6 : Int32) &&& 31)) &&& (1 : Int32)))])) _
        refine XS.ifYes X0.here hx rfl (pc0 := 23) (pc' := 30) rfl (hb hby at_23) rfl ((if0 _ _).trans (teq hc23).1) (by decide) (by decide) ?_
        show Steps p.tables e below (s₁.setTop (mkF m 30 #[.val (.long q0), .second, iv p1, iv (p1 &&& (3 : Int32)), .val (.long ((((p1 >>> ((2 : Int32) &&& 31)) &&& (15 : Int32)).toInt64) - (8 : Int64))), .second, .unset, .unset, .unset, .unset] [])) _
        refine XS.iconst X0.here hx rfl (hb hby at_30) ?_
        exact kt
      exact ⟨(0 : Int32), trivial, pre2⟩
    · have pre3 : ∀ t, Steps p.tables e below (s₁.setTop (mkF m 31 #[.val (.long q0), .second, iv p1, iv (p1 &&& (3 : Int32)), .val (.long ((((p1 >>> ((2 : Int32) &&& 31)) &&& (15 : Int32)).toInt64) - (8 : Int64))), .second, .unset, .unset, .unset, .unset] [(.int (1 : Int32))])) t → Steps p.tables e below (s₁.setTop (entryFrame m #[(.long q0), (.int p1)] maxLocals)) t := by
        intro t kt
        refine pre1 _ ?_
        show Steps p.tables e below (s₁.setTop (mkF m 23 #[.val (.long q0), .second, iv p1, iv (p1 &&& (3 : Int32)), .val (.long ((((p1 >>> ((2 : Int32) &&& 31)) &&& (15 : Int32)).toInt64) - (8 : Int64))), .second, .unset, .unset, .unset, .unset] [(.int ((p1 >>> ((6 : Int32) &&& 31)) &&& (1 : Int32)))])) _
        refine XS.ifNo X0.here hx rfl (hb hby at_23) rfl ((if0 _ _).trans (feq hc23).1) ?_
        show Steps p.tables e below (s₁.setTop (mkF m 26 #[.val (.long q0), .second, iv p1, iv (p1 &&& (3 : Int32)), .val (.long ((((p1 >>> ((2 : Int32) &&& 31)) &&& (15 : Int32)).toInt64) - (8 : Int64))), .second, .unset, .unset, .unset, .unset] [])) _
        refine XS.iconst X0.here hx rfl (hb hby at_26) ?_
        show Steps p.tables e below (s₁.setTop (mkF m 27 #[.val (.long q0), .second, iv p1, iv (p1 &&& (3 : Int32)), .val (.long ((((p1 >>> ((2 : Int32) &&& 31)) &&& (15 : Int32)).toInt64) - (8 : Int64))), .second, .unset, .unset, .unset, .unset] [(.int (1 : Int32))])) _
        refine XS.goto X0.here hx rfl (pc0 := 27) (pc' := 31) rfl (hb hby at_27) (by decide) (by decide) ?_
        exact kt
      exact ⟨(1 : Int32), trivial, pre3⟩
  have pre6 : ∀ t, Steps p.tables e below (s₁.setTop (mkF m 33 #[.val (.long q0), .second, iv p1, iv (p1 &&& (3 : Int32)), .val (.long ((((p1 >>> ((2 : Int32) &&& 31)) &&& (15 : Int32)).toInt64) - (8 : Int64))), .second, iv v4, .unset, .unset, .unset] [])) t → Steps p.tables e below (s₁.setTop (entryFrame m #[(.long q0), (.int p1)] maxLocals)) t := by
    intro t kt
    refine pre5 _ ?_
    show Steps p.tables e below (s₁.setTop (mkF m 31 #[.val (.long q0), .second, iv p1, iv (p1 &&& (3 : Int32)), .val (.long ((((p1 >>> ((2 : Int32) &&& 31)) &&& (15 : Int32)).toInt64) - (8 : Int64))), .second, .unset, .unset, .unset, .unset] [(.int v4)])) _
    refine XS.istore X0.here hx rfl (hb hby at_31) rfl (l' := #[.val (.long q0), .second, iv p1, iv (p1 &&& (3 : Int32)), .val (.long ((((p1 >>> ((2 : Int32) &&& 31)) &&& (15 : Int32)).toInt64) - (8 : Int64))), .second, iv v4, .unset, .unset, .unset]) rfl ?_
    exact kt
  obtain ⟨val, hj17, pre17⟩ : ∃ (val : Int64), (True) ∧ ∀ t, Steps p.tables e below (s₁.setTop (mkF m 107 #[.val (.long q0), .second, iv p1, iv (p1 &&& (3 : Int32)), .val (.long ((((p1 >>> ((2 : Int32) &&& 31)) &&& (15 : Int32)).toInt64) - (8 : Int64))), .second, iv v4, .val (.long val), .second, .unset] [])) t → Steps p.tables e below (s₁.setTop (entryFrame m #[(.long q0), (.int p1)] maxLocals)) t := by
    have pre7 : ∀ t, Steps p.tables e below (s₁.setTop (mkF m 34 #[.val (.long q0), .second, iv p1, iv (p1 &&& (3 : Int32)), .val (.long ((((p1 >>> ((2 : Int32) &&& 31)) &&& (15 : Int32)).toInt64) - (8 : Int64))), .second, iv v4, .unset, .unset, .unset] [(.int (p1 &&& (3 : Int32)))])) t → Steps p.tables e below (s₁.setTop (entryFrame m #[(.long q0), (.int p1)] maxLocals)) t := by
      intro t kt
      refine pre6 _ ?_
      show Steps p.tables e below (s₁.setTop (mkF m 33 #[.val (.long q0), .second, iv p1, iv (p1 &&& (3 : Int32)), .val (.long ((((p1 >>> ((2 : Int32) &&& 31)) &&& (15 : Int32)).toInt64) - (8 : Int64))), .second, iv v4, .unset, .unset, .unset] [])) _
      refine XS.iloadN X0.here hx rfl (hb hby at_33) rfl ?_
      exact kt
    by_cases hc34 : (p1 &&& (3 : Int32)) = (0 : Int32)
    · have pre8 : ∀ t, Steps p.tables e below (s₁.setTop (mkF m 107 #[.val (.long q0), .second, iv p1, iv (p1 &&& (3 : Int32)), .val (.long ((((p1 >>> ((2 : Int32) &&& 31)) &&& (15 : Int32)).toInt64) - (8 : Int64))), .second, iv v4, .val (.long q0), .second, .unset] [])) t → Steps p.tables e below (s₁.setTop (entryFrame m #[(.long q0), (.int p1)] maxLocals)) t := by
        intro t kt
        refine pre7 _ ?_
        show Steps p.tables e below (s₁.setTop (mkF m 34 #[.val (.long q0), .second, iv p1, iv (p1 &&& (3 : Int32)), .val (.long ((((p1 >>> ((2 : Int32) &&& 31)) &&& (15 : Int32)).toInt64) - (8 : Int64))), .second, iv v4, .unset, .unset, .unset] [(.int (p1 &&& (3 : Int32)))])) _
        refine XS.ifNo X0.here hx rfl (hb hby at_34) rfl ((if0 _ _).trans (teq hc34).2) ?_
        show Steps p.tables e below (s₁.setTop (mkF m 37 #[.val (.long q0), .second, iv p1, iv (p1 &&& (3 : Int32)), .val (.long ((((p1 >>> ((2 : Int32) &&& 31)) &&& (15 : Int32)).toInt64) - (8 : Int64))), .second, iv v4, .unset, .unset, .unset] [])) _
        refine XS.lloadN X0.here hx rfl (hb hby at_37) rfl ?_
        show Steps p.tables e below (s₁.setTop (mkF m 38 #[.val (.long q0), .second, iv p1, iv (p1 &&& (3 : Int32)), .val (.long ((((p1 >>> ((2 : Int32) &&& 31)) &&& (15 : Int32)).toInt64) - (8 : Int64))), .second, iv v4, .unset, .unset, .unset] [(.long q0)])) _
        refine XS.lstore X0.here hx rfl (hb hby at_38) rfl (l' := #[.val (.long q0), .second, iv p1, iv (p1 &&& (3 : Int32)), .val (.long ((((p1 >>> ((2 : Int32) &&& 31)) &&& (15 : Int32)).toInt64) - (8 : Int64))), .second, iv v4, .val (.long q0), .second, .unset]) rfl ?_
        show Steps p.tables e below (s₁.setTop (mkF m 40 #[.val (.long q0), .second, iv p1, iv (p1 &&& (3 : Int32)), .val (.long ((((p1 >>> ((2 : Int32) &&& 31)) &&& (15 : Int32)).toInt64) - (8 : Int64))), .second, iv v4, .val (.long q0), .second, .unset] [])) _
        refine XS.goto X0.here hx rfl (pc0 := 40) (pc' := 107) rfl (hb hby at_40) (by decide) (by decide) ?_
        exact kt
      exact ⟨q0, trivial, pre8⟩
    · have pre9 : ∀ t, Steps p.tables e below (s₁.setTop (mkF m 45 #[.val (.long q0), .second, iv p1, iv (p1 &&& (3 : Int32)), .val (.long ((((p1 >>> ((2 : Int32) &&& 31)) &&& (15 : Int32)).toInt64) - (8 : Int64))), .second, iv v4, .unset, .unset, .unset] [(.int (1 : Int32)), (.int (p1 &&& (3 : Int32)))])) t → Steps p.tables e below (s₁.setTop (entryFrame m #[(.long q0), (.int p1)] maxLocals)) t := by
        intro t kt
        refine pre7 _ ?_
        show Steps p.tables e below (s₁.setTop (mkF m 34 #[.val (.long q0), .second, iv p1, iv (p1 &&& (3 : Int32)), .val (.long ((((p1 >>> ((2 : Int32) &&& 31)) &&& (15 : Int32)).toInt64) - (8 : Int64))), .second, iv v4, .unset, .unset, .unset] [(.int (p1 &&& (3 : Int32)))])) _
        refine XS.ifYes X0.here hx rfl (pc0 := 34) (pc' := 43) rfl (hb hby at_34) rfl ((if0 _ _).trans (feq hc34).2) (by decide) (by decide) ?_
        show Steps p.tables e below (s₁.setTop (mkF m 43 #[.val (.long q0), .second, iv p1, iv (p1 &&& (3 : Int32)), .val (.long ((((p1 >>> ((2 : Int32) &&& 31)) &&& (15 : Int32)).toInt64) - (8 : Int64))), .second, iv v4, .unset, .unset, .unset] [])) _
        refine XS.iloadN X0.here hx rfl (hb hby at_43) rfl ?_
        show Steps p.tables e below (s₁.setTop (mkF m 44 #[.val (.long q0), .second, iv p1, iv (p1 &&& (3 : Int32)), .val (.long ((((p1 >>> ((2 : Int32) &&& 31)) &&& (15 : Int32)).toInt64) - (8 : Int64))), .second, iv v4, .unset, .unset, .unset] [(.int (p1 &&& (3 : Int32)))])) _
        refine XS.iconst X0.here hx rfl (hb hby at_44) ?_
        exact kt
      by_cases hc45 : (p1 &&& (3 : Int32)) = (1 : Int32)
      · have pre10 : ∀ t, Steps p.tables e below (s₁.setTop (mkF m 107 #[.val (.long q0), .second, iv p1, iv (p1 &&& (3 : Int32)), .val (.long ((((p1 >>> ((2 : Int32) &&& 31)) &&& (15 : Int32)).toInt64) - (8 : Int64))), .second, iv v4, .val (.long ((-2147483648 : Int64) + ((((p1 >>> ((2 : Int32) &&& 31)) &&& (15 : Int32)).toInt64) - (8 : Int64)))), .second, .unset] [])) t → Steps p.tables e below (s₁.setTop (entryFrame m #[(.long q0), (.int p1)] maxLocals)) t := by
          intro t kt
          refine pre9 _ ?_
          show Steps p.tables e below (s₁.setTop (mkF m 45 #[.val (.long q0), .second, iv p1, iv (p1 &&& (3 : Int32)), .val (.long ((((p1 >>> ((2 : Int32) &&& 31)) &&& (15 : Int32)).toInt64) - (8 : Int64))), .second, iv v4, .unset, .unset, .unset] [(.int (1 : Int32)), (.int (p1 &&& (3 : Int32)))])) _
          refine XS.icmpNo X0.here hx rfl (hb hby at_45) rfl (teq hc45).2 ?_
          show Steps p.tables e below (s₁.setTop (mkF m 48 #[.val (.long q0), .second, iv p1, iv (p1 &&& (3 : Int32)), .val (.long ((((p1 >>> ((2 : Int32) &&& 31)) &&& (15 : Int32)).toInt64) - (8 : Int64))), .second, iv v4, .unset, .unset, .unset] [])) _
          refine X0.ldc2Long hx hown (mvT hZ (hw _ (List.mem_of_getElem? (i := 2) rfl))) (g := (mkF m 48 #[.val (.long q0), .second, iv p1, iv (p1 &&& (3 : Int32)), .val (.long ((((p1 >>> ((2 : Int32) &&& 31)) &&& (15 : Int32)).toInt64) - (8 : Int64))), .second, iv v4, .unset, .unset, .unset] [])) rfl (hb hby at_48) _ ?_
          show Steps p.tables e below (s₁.setTop (mkF m 51 #[.val (.long q0), .second, iv p1, iv (p1 &&& (3 : Int32)), .val (.long ((((p1 >>> ((2 : Int32) &&& 31)) &&& (15 : Int32)).toInt64) - (8 : Int64))), .second, iv v4, .unset, .unset, .unset] [(.long (-2147483648 : Int64))])) _
          refine XS.lload X0.here hx rfl (hb hby at_51) rfl ?_
          show Steps p.tables e below (s₁.setTop (mkF m 53 #[.val (.long q0), .second, iv p1, iv (p1 &&& (3 : Int32)), .val (.long ((((p1 >>> ((2 : Int32) &&& 31)) &&& (15 : Int32)).toInt64) - (8 : Int64))), .second, iv v4, .unset, .unset, .unset] [(.long ((((p1 >>> ((2 : Int32) &&& 31)) &&& (15 : Int32)).toInt64) - (8 : Int64))), (.long (-2147483648 : Int64))])) _
          refine XS.ladd X0.here hx rfl (hb hby at_53) rfl ?_
          show Steps p.tables e below (s₁.setTop (mkF m 54 #[.val (.long q0), .second, iv p1, iv (p1 &&& (3 : Int32)), .val (.long ((((p1 >>> ((2 : Int32) &&& 31)) &&& (15 : Int32)).toInt64) - (8 : Int64))), .second, iv v4, .unset, .unset, .unset] [(.long ((-2147483648 : Int64) + ((((p1 >>> ((2 : Int32) &&& 31)) &&& (15 : Int32)).toInt64) - (8 : Int64))))])) _
          refine XS.lstore X0.here hx rfl (hb hby at_54) rfl (l' := #[.val (.long q0), .second, iv p1, iv (p1 &&& (3 : Int32)), .val (.long ((((p1 >>> ((2 : Int32) &&& 31)) &&& (15 : Int32)).toInt64) - (8 : Int64))), .second, iv v4, .val (.long ((-2147483648 : Int64) + ((((p1 >>> ((2 : Int32) &&& 31)) &&& (15 : Int32)).toInt64) - (8 : Int64)))), .second, .unset]) rfl ?_
          show Steps p.tables e below (s₁.setTop (mkF m 56 #[.val (.long q0), .second, iv p1, iv (p1 &&& (3 : Int32)), .val (.long ((((p1 >>> ((2 : Int32) &&& 31)) &&& (15 : Int32)).toInt64) - (8 : Int64))), .second, iv v4, .val (.long ((-2147483648 : Int64) + ((((p1 >>> ((2 : Int32) &&& 31)) &&& (15 : Int32)).toInt64) - (8 : Int64)))), .second, .unset] [])) _
          refine XS.goto X0.here hx rfl (pc0 := 56) (pc' := 107) rfl (hb hby at_56) (by decide) (by decide) ?_
          exact kt
        exact ⟨((-2147483648 : Int64) + ((((p1 >>> ((2 : Int32) &&& 31)) &&& (15 : Int32)).toInt64) - (8 : Int64))), trivial, pre10⟩
      · have pre11 : ∀ t, Steps p.tables e below (s₁.setTop (mkF m 61 #[.val (.long q0), .second, iv p1, iv (p1 &&& (3 : Int32)), .val (.long ((((p1 >>> ((2 : Int32) &&& 31)) &&& (15 : Int32)).toInt64) - (8 : Int64))), .second, iv v4, .unset, .unset, .unset] [(.int (2 : Int32)), (.int (p1 &&& (3 : Int32)))])) t → Steps p.tables e below (s₁.setTop (entryFrame m #[(.long q0), (.int p1)] maxLocals)) t := by
          intro t kt
          refine pre9 _ ?_
          show Steps p.tables e below (s₁.setTop (mkF m 45 #[.val (.long q0), .second, iv p1, iv (p1 &&& (3 : Int32)), .val (.long ((((p1 >>> ((2 : Int32) &&& 31)) &&& (15 : Int32)).toInt64) - (8 : Int64))), .second, iv v4, .unset, .unset, .unset] [(.int (1 : Int32)), (.int (p1 &&& (3 : Int32)))])) _
          refine XS.icmpYes X0.here hx rfl (pc0 := 45) (pc' := 59) rfl (hb hby at_45) rfl (feq hc45).2 (by decide) (by decide) ?_
          show Steps p.tables e below (s₁.setTop (mkF m 59 #[.val (.long q0), .second, iv p1, iv (p1 &&& (3 : Int32)), .val (.long ((((p1 >>> ((2 : Int32) &&& 31)) &&& (15 : Int32)).toInt64) - (8 : Int64))), .second, iv v4, .unset, .unset, .unset] [])) _
          refine XS.iloadN X0.here hx rfl (hb hby at_59) rfl ?_
          show Steps p.tables e below (s₁.setTop (mkF m 60 #[.val (.long q0), .second, iv p1, iv (p1 &&& (3 : Int32)), .val (.long ((((p1 >>> ((2 : Int32) &&& 31)) &&& (15 : Int32)).toInt64) - (8 : Int64))), .second, iv v4, .unset, .unset, .unset] [(.int (p1 &&& (3 : Int32)))])) _
          refine XS.iconst X0.here hx rfl (hb hby at_60) ?_
          exact kt
        by_cases hc61 : (p1 &&& (3 : Int32)) = (2 : Int32)
        · have pre12 : ∀ t, Steps p.tables e below (s₁.setTop (mkF m 107 #[.val (.long q0), .second, iv p1, iv (p1 &&& (3 : Int32)), .val (.long ((((p1 >>> ((2 : Int32) &&& 31)) &&& (15 : Int32)).toInt64) - (8 : Int64))), .second, iv v4, .val (.long ((2147483647 : Int64) + ((((p1 >>> ((2 : Int32) &&& 31)) &&& (15 : Int32)).toInt64) - (8 : Int64)))), .second, .unset] [])) t → Steps p.tables e below (s₁.setTop (entryFrame m #[(.long q0), (.int p1)] maxLocals)) t := by
            intro t kt
            refine pre11 _ ?_
            show Steps p.tables e below (s₁.setTop (mkF m 61 #[.val (.long q0), .second, iv p1, iv (p1 &&& (3 : Int32)), .val (.long ((((p1 >>> ((2 : Int32) &&& 31)) &&& (15 : Int32)).toInt64) - (8 : Int64))), .second, iv v4, .unset, .unset, .unset] [(.int (2 : Int32)), (.int (p1 &&& (3 : Int32)))])) _
            refine XS.icmpNo X0.here hx rfl (hb hby at_61) rfl (teq hc61).2 ?_
            show Steps p.tables e below (s₁.setTop (mkF m 64 #[.val (.long q0), .second, iv p1, iv (p1 &&& (3 : Int32)), .val (.long ((((p1 >>> ((2 : Int32) &&& 31)) &&& (15 : Int32)).toInt64) - (8 : Int64))), .second, iv v4, .unset, .unset, .unset] [])) _
            refine X0.ldc2Long hx hown (mvT hZ (hw _ (List.mem_of_getElem? (i := 1) rfl))) (g := (mkF m 64 #[.val (.long q0), .second, iv p1, iv (p1 &&& (3 : Int32)), .val (.long ((((p1 >>> ((2 : Int32) &&& 31)) &&& (15 : Int32)).toInt64) - (8 : Int64))), .second, iv v4, .unset, .unset, .unset] [])) rfl (hb hby at_64) _ ?_
            show Steps p.tables e below (s₁.setTop (mkF m 67 #[.val (.long q0), .second, iv p1, iv (p1 &&& (3 : Int32)), .val (.long ((((p1 >>> ((2 : Int32) &&& 31)) &&& (15 : Int32)).toInt64) - (8 : Int64))), .second, iv v4, .unset, .unset, .unset] [(.long (2147483647 : Int64))])) _
            refine XS.lload X0.here hx rfl (hb hby at_67) rfl ?_
            show Steps p.tables e below (s₁.setTop (mkF m 69 #[.val (.long q0), .second, iv p1, iv (p1 &&& (3 : Int32)), .val (.long ((((p1 >>> ((2 : Int32) &&& 31)) &&& (15 : Int32)).toInt64) - (8 : Int64))), .second, iv v4, .unset, .unset, .unset] [(.long ((((p1 >>> ((2 : Int32) &&& 31)) &&& (15 : Int32)).toInt64) - (8 : Int64))), (.long (2147483647 : Int64))])) _
            refine XS.ladd X0.here hx rfl (hb hby at_69) rfl ?_
            show Steps p.tables e below (s₁.setTop (mkF m 70 #[.val (.long q0), .second, iv p1, iv (p1 &&& (3 : Int32)), .val (.long ((((p1 >>> ((2 : Int32) &&& 31)) &&& (15 : Int32)).toInt64) - (8 : Int64))), .second, iv v4, .unset, .unset, .unset] [(.long ((2147483647 : Int64) + ((((p1 >>> ((2 : Int32) &&& 31)) &&& (15 : Int32)).toInt64) - (8 : Int64))))])) _
            refine XS.lstore X0.here hx rfl (hb hby at_70) rfl (l' := #[.val (.long q0), .second, iv p1, iv (p1 &&& (3 : Int32)), .val (.long ((((p1 >>> ((2 : Int32) &&& 31)) &&& (15 : Int32)).toInt64) - (8 : Int64))), .second, iv v4, .val (.long ((2147483647 : Int64) + ((((p1 >>> ((2 : Int32) &&& 31)) &&& (15 : Int32)).toInt64) - (8 : Int64)))), .second, .unset]) rfl ?_
            show Steps p.tables e below (s₁.setTop (mkF m 72 #[.val (.long q0), .second, iv p1, iv (p1 &&& (3 : Int32)), .val (.long ((((p1 >>> ((2 : Int32) &&& 31)) &&& (15 : Int32)).toInt64) - (8 : Int64))), .second, iv v4, .val (.long ((2147483647 : Int64) + ((((p1 >>> ((2 : Int32) &&& 31)) &&& (15 : Int32)).toInt64) - (8 : Int64)))), .second, .unset] [])) _
            refine XS.goto X0.here hx rfl (pc0 := 72) (pc' := 107) rfl (hb hby at_72) (by decide) (by decide) ?_
            exact kt
          exact ⟨((2147483647 : Int64) + ((((p1 >>> ((2 : Int32) &&& 31)) &&& (15 : Int32)).toInt64) - (8 : Int64))), trivial, pre12⟩
        · have pre13 : ∀ t, Steps p.tables e below (s₁.setTop (mkF m 77 #[.val (.long q0), .second, iv p1, iv (p1 &&& (3 : Int32)), .val (.long ((((p1 >>> ((2 : Int32) &&& 31)) &&& (15 : Int32)).toInt64) - (8 : Int64))), .second, iv v4, .unset, .unset, .unset] [(.int v4)])) t → Steps p.tables e below (s₁.setTop (entryFrame m #[(.long q0), (.int p1)] maxLocals)) t := by
            intro t kt
            refine pre11 _ ?_
            show Steps p.tables e below (s₁.setTop (mkF m 61 #[.val (.long q0), .second, iv p1, iv (p1 &&& (3 : Int32)), .val (.long ((((p1 >>> ((2 : Int32) &&& 31)) &&& (15 : Int32)).toInt64) - (8 : Int64))), .second, iv v4, .unset, .unset, .unset] [(.int (2 : Int32)), (.int (p1 &&& (3 : Int32)))])) _
            refine XS.icmpYes X0.here hx rfl (pc0 := 61) (pc' := 75) rfl (hb hby at_61) rfl (feq hc61).2 (by decide) (by decide) ?_
            show Steps p.tables e below (s₁.setTop (mkF m 75 #[.val (.long q0), .second, iv p1, iv (p1 &&& (3 : Int32)), .val (.long ((((p1 >>> ((2 : Int32) &&& 31)) &&& (15 : Int32)).toInt64) - (8 : Int64))), .second, iv v4, .unset, .unset, .unset] [])) _
            refine XS.iload X0.here hx rfl (hb hby at_75) rfl ?_
            exact kt
          by_cases hc77 : v4 = (0 : Int32)
          · have pre14 : ∀ t, Steps p.tables e below (s₁.setTop (mkF m 107 #[.val (.long q0), .second, iv p1, iv (p1 &&& (3 : Int32)), .val (.long ((((p1 >>> ((2 : Int32) &&& 31)) &&& (15 : Int32)).toInt64) - (8 : Int64))), .second, iv v4, .val (.long ((9223372036854775807 : Int64) - (((((p1 >>> ((2 : Int32) &&& 31)) &&& (15 : Int32)).toInt64) - (8 : Int64)) + (8 : Int64)))), .second, .unset] [])) t → Steps p.tables e below (s₁.setTop (entryFrame m #[(.long q0), (.int p1)] maxLocals)) t := by
              intro t kt
              refine pre13 _ ?_
              show Steps p.tables e below (s₁.setTop (mkF m 77 #[.val (.long q0), .second, iv p1, iv (p1 &&& (3 : Int32)), .val (.long ((((p1 >>> ((2 : Int32) &&& 31)) &&& (15 : Int32)).toInt64) - (8 : Int64))), .second, iv v4, .unset, .unset, .unset] [(.int v4)])) _
              refine XS.ifYes X0.here hx rfl (pc0 := 77) (pc' := 95) rfl (hb hby at_77) rfl ((if0 _ _).trans (teq hc77).1) (by decide) (by decide) ?_
              show Steps p.tables e below (s₁.setTop (mkF m 95 #[.val (.long q0), .second, iv p1, iv (p1 &&& (3 : Int32)), .val (.long ((((p1 >>> ((2 : Int32) &&& 31)) &&& (15 : Int32)).toInt64) - (8 : Int64))), .second, iv v4, .unset, .unset, .unset] [])) _
              refine X0.ldc2Long hx hown (mvT hZ (hw _ (List.mem_of_getElem? (i := 8) rfl))) (g := (mkF m 95 #[.val (.long q0), .second, iv p1, iv (p1 &&& (3 : Int32)), .val (.long ((((p1 >>> ((2 : Int32) &&& 31)) &&& (15 : Int32)).toInt64) - (8 : Int64))), .second, iv v4, .unset, .unset, .unset] [])) rfl (hb hby at_95) _ ?_
              show Steps p.tables e below (s₁.setTop (mkF m 98 #[.val (.long q0), .second, iv p1, iv (p1 &&& (3 : Int32)), .val (.long ((((p1 >>> ((2 : Int32) &&& 31)) &&& (15 : Int32)).toInt64) - (8 : Int64))), .second, iv v4, .unset, .unset, .unset] [(.long (9223372036854775807 : Int64))])) _
              refine XS.lload X0.here hx rfl (hb hby at_98) rfl ?_
              show Steps p.tables e below (s₁.setTop (mkF m 100 #[.val (.long q0), .second, iv p1, iv (p1 &&& (3 : Int32)), .val (.long ((((p1 >>> ((2 : Int32) &&& 31)) &&& (15 : Int32)).toInt64) - (8 : Int64))), .second, iv v4, .unset, .unset, .unset] [(.long ((((p1 >>> ((2 : Int32) &&& 31)) &&& (15 : Int32)).toInt64) - (8 : Int64))), (.long (9223372036854775807 : Int64))])) _
              refine X0.ldc2Long hx hown (mvT hZ (hw _ (List.mem_of_getElem? (i := 0) rfl))) (g := (mkF m 100 #[.val (.long q0), .second, iv p1, iv (p1 &&& (3 : Int32)), .val (.long ((((p1 >>> ((2 : Int32) &&& 31)) &&& (15 : Int32)).toInt64) - (8 : Int64))), .second, iv v4, .unset, .unset, .unset] [(.long ((((p1 >>> ((2 : Int32) &&& 31)) &&& (15 : Int32)).toInt64) - (8 : Int64))), (.long (9223372036854775807 : Int64))])) rfl (hb hby at_100) _ ?_
              show Steps p.tables e below (s₁.setTop (mkF m 103 #[.val (.long q0), .second, iv p1, iv (p1 &&& (3 : Int32)), .val (.long ((((p1 >>> ((2 : Int32) &&& 31)) &&& (15 : Int32)).toInt64) - (8 : Int64))), .second, iv v4, .unset, .unset, .unset] [(.long (8 : Int64)), (.long ((((p1 >>> ((2 : Int32) &&& 31)) &&& (15 : Int32)).toInt64) - (8 : Int64))), (.long (9223372036854775807 : Int64))])) _
              refine XS.ladd X0.here hx rfl (hb hby at_103) rfl ?_
              show Steps p.tables e below (s₁.setTop (mkF m 104 #[.val (.long q0), .second, iv p1, iv (p1 &&& (3 : Int32)), .val (.long ((((p1 >>> ((2 : Int32) &&& 31)) &&& (15 : Int32)).toInt64) - (8 : Int64))), .second, iv v4, .unset, .unset, .unset] [(.long (((((p1 >>> ((2 : Int32) &&& 31)) &&& (15 : Int32)).toInt64) - (8 : Int64)) + (8 : Int64))), (.long (9223372036854775807 : Int64))])) _
              refine XS.lsub X0.here hx rfl (hb hby at_104) rfl ?_
              show Steps p.tables e below (s₁.setTop (mkF m 105 #[.val (.long q0), .second, iv p1, iv (p1 &&& (3 : Int32)), .val (.long ((((p1 >>> ((2 : Int32) &&& 31)) &&& (15 : Int32)).toInt64) - (8 : Int64))), .second, iv v4, .unset, .unset, .unset] [(.long ((9223372036854775807 : Int64) - (((((p1 >>> ((2 : Int32) &&& 31)) &&& (15 : Int32)).toInt64) - (8 : Int64)) + (8 : Int64))))])) _
              refine XS.lstore X0.here hx rfl (hb hby at_105) rfl (l' := #[.val (.long q0), .second, iv p1, iv (p1 &&& (3 : Int32)), .val (.long ((((p1 >>> ((2 : Int32) &&& 31)) &&& (15 : Int32)).toInt64) - (8 : Int64))), .second, iv v4, .val (.long ((9223372036854775807 : Int64) - (((((p1 >>> ((2 : Int32) &&& 31)) &&& (15 : Int32)).toInt64) - (8 : Int64)) + (8 : Int64)))), .second, .unset]) rfl ?_
              exact kt
            exact ⟨((9223372036854775807 : Int64) - (((((p1 >>> ((2 : Int32) &&& 31)) &&& (15 : Int32)).toInt64) - (8 : Int64)) + (8 : Int64))), trivial, pre14⟩
          · have pre15 : ∀ t, Steps p.tables e below (s₁.setTop (mkF m 107 #[.val (.long q0), .second, iv p1, iv (p1 &&& (3 : Int32)), .val (.long ((((p1 >>> ((2 : Int32) &&& 31)) &&& (15 : Int32)).toInt64) - (8 : Int64))), .second, iv v4, .val (.long ((-9223372036854775808 : Int64) + (((((p1 >>> ((2 : Int32) &&& 31)) &&& (15 : Int32)).toInt64) - (8 : Int64)) + (8 : Int64)))), .second, .unset] [])) t → Steps p.tables e below (s₁.setTop (entryFrame m #[(.long q0), (.int p1)] maxLocals)) t := by
              intro t kt
              refine pre13 _ ?_
              show Steps p.tables e below (s₁.setTop (mkF m 77 #[.val (.long q0), .second, iv p1, iv (p1 &&& (3 : Int32)), .val (.long ((((p1 >>> ((2 : Int32) &&& 31)) &&& (15 : Int32)).toInt64) - (8 : Int64))), .second, iv v4, .unset, .unset, .unset] [(.int v4)])) _
              refine XS.ifNo X0.here hx rfl (hb hby at_77) rfl ((if0 _ _).trans (feq hc77).1) ?_
              show Steps p.tables e below (s₁.setTop (mkF m 80 #[.val (.long q0), .second, iv p1, iv (p1 &&& (3 : Int32)), .val (.long ((((p1 >>> ((2 : Int32) &&& 31)) &&& (15 : Int32)).toInt64) - (8 : Int64))), .second, iv v4, .unset, .unset, .unset] [])) _
              refine X0.ldc2Long hx hown (mvT hZ (hw _ (List.mem_of_getElem? (i := 7) rfl))) (g := (mkF m 80 #[.val (.long q0), .second, iv p1, iv (p1 &&& (3 : Int32)), .val (.long ((((p1 >>> ((2 : Int32) &&& 31)) &&& (15 : Int32)).toInt64) - (8 : Int64))), .second, iv v4, .unset, .unset, .unset] [])) rfl (hb hby at_80) _ ?_
              show Steps p.tables e below (s₁.setTop (mkF m 83 #[.val (.long q0), .second, iv p1, iv (p1 &&& (3 : Int32)), .val (.long ((((p1 >>> ((2 : Int32) &&& 31)) &&& (15 : Int32)).toInt64) - (8 : Int64))), .second, iv v4, .unset, .unset, .unset] [(.long (-9223372036854775808 : Int64))])) _
              refine XS.lload X0.here hx rfl (hb hby at_83) rfl ?_
              show Steps p.tables e below (s₁.setTop (mkF m 85 #[.val (.long q0), .second, iv p1, iv (p1 &&& (3 : Int32)), .val (.long ((((p1 >>> ((2 : Int32) &&& 31)) &&& (15 : Int32)).toInt64) - (8 : Int64))), .second, iv v4, .unset, .unset, .unset] [(.long ((((p1 >>> ((2 : Int32) &&& 31)) &&& (15 : Int32)).toInt64) - (8 : Int64))), (.long (-9223372036854775808 : Int64))])) _
              refine X0.ldc2Long hx hown (mvT hZ (hw _ (List.mem_of_getElem? (i := 0) rfl))) (g := (mkF m 85 #[.val (.long q0), .second, iv p1, iv (p1 &&& (3 : Int32)), .val (.long ((((p1 >>> ((2 : Int32) &&& 31)) &&& (15 : Int32)).toInt64) - (8 : Int64))), .second, iv v4, .unset, .unset, .unset] [(.long ((((p1 >>> ((2 : Int32) &&& 31)) &&& (15 : Int32)).toInt64) - (8 : Int64))), (.long (-9223372036854775808 : Int64))])) rfl (hb hby at_85) _ ?_
              show Steps p.tables e below (s₁.setTop (mkF m 88 #[.val (.long q0), .second, iv p1, iv (p1 &&& (3 : Int32)), .val (.long ((((p1 >>> ((2 : Int32) &&& 31)) &&& (15 : Int32)).toInt64) - (8 : Int64))), .second, iv v4, .unset, .unset, .unset] [(.long (8 : Int64)), (.long ((((p1 >>> ((2 : Int32) &&& 31)) &&& (15 : Int32)).toInt64) - (8 : Int64))), (.long (-9223372036854775808 : Int64))])) _
              refine XS.ladd X0.here hx rfl (hb hby at_88) rfl ?_
              show Steps p.tables e below (s₁.setTop (mkF m 89 #[.val (.long q0), .second, iv p1, iv (p1 &&& (3 : Int32)), .val (.long ((((p1 >>> ((2 : Int32) &&& 31)) &&& (15 : Int32)).toInt64) - (8 : Int64))), .second, iv v4, .unset, .unset, .unset] [(.long (((((p1 >>> ((2 : Int32) &&& 31)) &&& (15 : Int32)).toInt64) - (8 : Int64)) + (8 : Int64))), (.long (-9223372036854775808 : Int64))])) _
              refine XS.ladd X0.here hx rfl (hb hby at_89) rfl ?_
              show Steps p.tables e below (s₁.setTop (mkF m 90 #[.val (.long q0), .second, iv p1, iv (p1 &&& (3 : Int32)), .val (.long ((((p1 >>> ((2 : Int32) &&& 31)) &&& (15 : Int32)).toInt64) - (8 : Int64))), .second, iv v4, .unset, .unset, .unset] [(.long ((-9223372036854775808 : Int64) + (((((p1 >>> ((2 : Int32) &&& 31)) &&& (15 : Int32)).toInt64) - (8 : Int64)) + (8 : Int64))))])) _
              refine XS.lstore X0.here hx rfl (hb hby at_90) rfl (l' := #[.val (.long q0), .second, iv p1, iv (p1 &&& (3 : Int32)), .val (.long ((((p1 >>> ((2 : Int32) &&& 31)) &&& (15 : Int32)).toInt64) - (8 : Int64))), .second, iv v4, .val (.long ((-9223372036854775808 : Int64) + (((((p1 >>> ((2 : Int32) &&& 31)) &&& (15 : Int32)).toInt64) - (8 : Int64)) + (8 : Int64)))), .second, .unset]) rfl ?_
              show Steps p.tables e below (s₁.setTop (mkF m 92 #[.val (.long q0), .second, iv p1, iv (p1 &&& (3 : Int32)), .val (.long ((((p1 >>> ((2 : Int32) &&& 31)) &&& (15 : Int32)).toInt64) - (8 : Int64))), .second, iv v4, .val (.long ((-9223372036854775808 : Int64) + (((((p1 >>> ((2 : Int32) &&& 31)) &&& (15 : Int32)).toInt64) - (8 : Int64)) + (8 : Int64)))), .second, .unset] [])) _
              refine XS.goto X0.here hx rfl (pc0 := 92) (pc' := 107) rfl (hb hby at_92) (by decide) (by decide) ?_
              exact kt
            exact ⟨((-9223372036854775808 : Int64) + (((((p1 >>> ((2 : Int32) &&& 31)) &&& (15 : Int32)).toInt64) - (8 : Int64)) + (8 : Int64))), trivial, pre15⟩
  obtain ⟨exp, hexp, pre24⟩ : ∃ (exp : Int32), ((((lcmpW val (-2147483648 : Int64)) < (0 : Int32)) ∧ exp = (0 : Int32)) ∨ ((¬ ((lcmpW val (-2147483648 : Int64)) < (0 : Int32))) ∧ ((0 : Int32) < (lcmpW val (2147483647 : Int64))) ∧ exp = (0 : Int32)) ∨ ((¬ ((lcmpW val (-2147483648 : Int64)) < (0 : Int32))) ∧ (¬ ((0 : Int32) < (lcmpW val (2147483647 : Int64)))) ∧ exp = (1 : Int32))) ∧ ∀ t, Steps p.tables e below (s₁.setTop (mkF m 130 #[.val (.long q0), .second, iv p1, iv (p1 &&& (3 : Int32)), .val (.long ((((p1 >>> ((2 : Int32) &&& 31)) &&& (15 : Int32)).toInt64) - (8 : Int64))), .second, iv v4, .val (.long val), .second, .unset] [(.int exp)])) t → Steps p.tables e below (s₁.setTop (entryFrame m #[(.long q0), (.int p1)] maxLocals)) t := by
    have pre18 : ∀ t, Steps p.tables e below (s₁.setTop (mkF m 113 #[.val (.long q0), .second, iv p1, iv (p1 &&& (3 : Int32)), .val (.long ((((p1 >>> ((2 : Int32) &&& 31)) &&& (15 : Int32)).toInt64) - (8 : Int64))), .second, iv v4, .val (.long val), .second, .unset] [(.int (lcmpW val (-2147483648 : Int64)))])) t → Steps p.tables e below (s₁.setTop (entryFrame m #[(.long q0), (.int p1)] maxLocals)) t := by
      intro t kt
      refine pre17 _ ?_
      show Steps p.tables e below (s₁.setTop (mkF m 107 #[.val (.long q0), .second, iv p1, iv (p1 &&& (3 : Int32)), .val (.long ((((p1 >>> ((2 : Int32) &&& 31)) &&& (15 : Int32)).toInt64) - (8 : Int64))), .second, iv v4, .val (.long val), .second, .unset] [])) _
      refine XS.lload X0.here hx rfl (hb hby at_107) rfl ?_
      show Steps p.tables e below (s₁.setTop (mkF m 109 #[.val (.long q0), .second, iv p1, iv (p1 &&& (3 : Int32)), .val (.long ((((p1 >>> ((2 : Int32) &&& 31)) &&& (15 : Int32)).toInt64) - (8 : Int64))), .second, iv v4, .val (.long val), .second, .unset] [(.long val)])) _
      refine X0.ldc2Long hx hown (mvT hZ (hw _ (List.mem_of_getElem? (i := 2) rfl))) (g := (mkF m 109 #[.val (.long q0), .second, iv p1, iv (p1 &&& (3 : Int32)), .val (.long ((((p1 >>> ((2 : Int32) &&& 31)) &&& (15 : Int32)).toInt64) - (8 : Int64))), .second, iv v4, .val (.long val), .second, .unset] [(.long val)])) rfl (hb hby at_109) _ ?_
      show Steps p.tables e below (s₁.setTop (mkF m 112 #[.val (.long q0), .second, iv p1, iv (p1 &&& (3 : Int32)), .val (.long ((((p1 >>> ((2 : Int32) &&& 31)) &&& (15 : Int32)).toInt64) - (8 : Int64))), .second, iv v4, .val (.long val), .second, .unset] [(.long (-2147483648 : Int64)), (.long val)])) _
      refine XS.lcmp X0.here hx rfl (hb hby at_112) rfl ?_
      exact kt
    by_cases hc113 : (lcmpW val (-2147483648 : Int64)) < (0 : Int32)
    · have pre19 : ∀ t, Steps p.tables e below (s₁.setTop (mkF m 130 #[.val (.long q0), .second, iv p1, iv (p1 &&& (3 : Int32)), .val (.long ((((p1 >>> ((2 : Int32) &&& 31)) &&& (15 : Int32)).toInt64) - (8 : Int64))), .second, iv v4, .val (.long val), .second, .unset] [(.int (0 : Int32))])) t → Steps p.tables e below (s₁.setTop (entryFrame m #[(.long q0), (.int p1)] maxLocals)) t := by
        intro t kt
        refine pre18 _ ?_
        show Steps p.tables e below (s₁.setTop (mkF m 113 #[.val (.long q0), .second, iv p1, iv (p1 &&& (3 : Int32)), .val (.long ((((p1 >>> ((2 : Int32) &&& 31)) &&& (15 : Int32)).toInt64) - (8 : Int64))), .second, iv v4, .val (.long val), .second, .unset] [(.int (lcmpW val (-2147483648 : Int64)))])) _
        refine XS.ifYes X0.here hx rfl (pc0 := 113) (pc' := 129) rfl (hb hby at_113) rfl ((if0 _ _).trans (tlt hc113).1) (by decide) (by decide) ?_
        show Steps p.tables e below (s₁.setTop (mkF m 129 #[.val (.long q0), .second, iv p1, iv (p1 &&& (3 : Int32)), .val (.long ((((p1 >>> ((2 : Int32) &&& 31)) &&& (15 : Int32)).toInt64) - (8 : Int64))), .second, iv v4, .val (.long val), .second, .unset] [])) _
        refine XS.iconst X0.here hx rfl (hb hby at_129) ?_
        exact kt
      exact ⟨(0 : Int32), Or.inl ⟨hc113, rfl⟩, pre19⟩
    · have pre20 : ∀ t, Steps p.tables e below (s₁.setTop (mkF m 122 #[.val (.long q0), .second, iv p1, iv (p1 &&& (3 : Int32)), .val (.long ((((p1 >>> ((2 : Int32) &&& 31)) &&& (15 : Int32)).toInt64) - (8 : Int64))), .second, iv v4, .val (.long val), .second, .unset] [(.int (lcmpW val (2147483647 : Int64)))])) t → Steps p.tables e below (s₁.setTop (entryFrame m #[(.long q0), (.int p1)] maxLocals)) t := by
        intro t kt
        refine pre18 _ ?_
        show Steps p.tables e below (s₁.setTop (mkF m 113 #[.val (.long q0), .second, iv p1, iv (p1 &&& (3 : Int32)), .val (.long ((((p1 >>> ((2 : Int32) &&& 31)) &&& (15 : Int32)).toInt64) - (8 : Int64))), .second, iv v4, .val (.long val), .second, .unset] [(.int (lcmpW val (-2147483648 : Int64)))])) _
        refine XS.ifNo X0.here hx rfl (hb hby at_113) rfl ((if0 _ _).trans (flt hc113).1) ?_
        show Steps p.tables e below (s₁.setTop (mkF m 116 #[.val (.long q0), .second, iv p1, iv (p1 &&& (3 : Int32)), .val (.long ((((p1 >>> ((2 : Int32) &&& 31)) &&& (15 : Int32)).toInt64) - (8 : Int64))), .second, iv v4, .val (.long val), .second, .unset] [])) _
        refine XS.lload X0.here hx rfl (hb hby at_116) rfl ?_
        show Steps p.tables e below (s₁.setTop (mkF m 118 #[.val (.long q0), .second, iv p1, iv (p1 &&& (3 : Int32)), .val (.long ((((p1 >>> ((2 : Int32) &&& 31)) &&& (15 : Int32)).toInt64) - (8 : Int64))), .second, iv v4, .val (.long val), .second, .unset] [(.long val)])) _
        refine X0.ldc2Long hx hown (mvT hZ (hw _ (List.mem_of_getElem? (i := 1) rfl))) (g := (mkF m 118 #[.val (.long q0), .second, iv p1, iv (p1 &&& (3 : Int32)), .val (.long ((((p1 >>> ((2 : Int32) &&& 31)) &&& (15 : Int32)).toInt64) - (8 : Int64))), .second, iv v4, .val (.long val), .second, .unset] [(.long val)])) rfl (hb hby at_118) _ ?_
        show Steps p.tables e below (s₁.setTop (mkF m 121 #[.val (.long q0), .second, iv p1, iv (p1 &&& (3 : Int32)), .val (.long ((((p1 >>> ((2 : Int32) &&& 31)) &&& (15 : Int32)).toInt64) - (8 : Int64))), .second, iv v4, .val (.long val), .second, .unset] [(.long (2147483647 : Int64)), (.long val)])) _
        refine XS.lcmp X0.here hx rfl (hb hby at_121) rfl ?_
        exact kt
      by_cases hc122 : (0 : Int32) < (lcmpW val (2147483647 : Int64))
      · have pre21 : ∀ t, Steps p.tables e below (s₁.setTop (mkF m 130 #[.val (.long q0), .second, iv p1, iv (p1 &&& (3 : Int32)), .val (.long ((((p1 >>> ((2 : Int32) &&& 31)) &&& (15 : Int32)).toInt64) - (8 : Int64))), .second, iv v4, .val (.long val), .second, .unset] [(.int (0 : Int32))])) t → Steps p.tables e below (s₁.setTop (entryFrame m #[(.long q0), (.int p1)] maxLocals)) t := by
          intro t kt
          refine pre20 _ ?_
          show Steps p.tables e below (s₁.setTop (mkF m 122 #[.val (.long q0), .second, iv p1, iv (p1 &&& (3 : Int32)), .val (.long ((((p1 >>> ((2 : Int32) &&& 31)) &&& (15 : Int32)).toInt64) - (8 : Int64))), .second, iv v4, .val (.long val), .second, .unset] [(.int (lcmpW val (2147483647 : Int64)))])) _
          refine XS.ifYes X0.here hx rfl (pc0 := 122) (pc' := 129) rfl (hb hby at_122) rfl ((if0 _ _).trans (tlt hc122).2.2.1) (by decide) (by decide) ?_
          show Steps p.tables e below (s₁.setTop (mkF m 129 #[.val (.long q0), .second, iv p1, iv (p1 &&& (3 : Int32)), .val (.long ((((p1 >>> ((2 : Int32) &&& 31)) &&& (15 : Int32)).toInt64) - (8 : Int64))), .second, iv v4, .val (.long val), .second, .unset] [])) _
          refine XS.iconst X0.here hx rfl (hb hby at_129) ?_
          exact kt
        exact ⟨(0 : Int32), Or.inr (Or.inl ⟨hc113, hc122, rfl⟩), pre21⟩
      · have pre22 : ∀ t, Steps p.tables e below (s₁.setTop (mkF m 130 #[.val (.long q0), .second, iv p1, iv (p1 &&& (3 : Int32)), .val (.long ((((p1 >>> ((2 : Int32) &&& 31)) &&& (15 : Int32)).toInt64) - (8 : Int64))), .second, iv v4, .val (.long val), .second, .unset] [(.int (1 : Int32))])) t → Steps p.tables e below (s₁.setTop (entryFrame m #[(.long q0), (.int p1)] maxLocals)) t := by
          intro t kt
          refine pre20 _ ?_
          show Steps p.tables e below (s₁.setTop (mkF m 122 #[.val (.long q0), .second, iv p1, iv (p1 &&& (3 : Int32)), .val (.long ((((p1 >>> ((2 : Int32) &&& 31)) &&& (15 : Int32)).toInt64) - (8 : Int64))), .second, iv v4, .val (.long val), .second, .unset] [(.int (lcmpW val (2147483647 : Int64)))])) _
          refine XS.ifNo X0.here hx rfl (hb hby at_122) rfl ((if0 _ _).trans (flt hc122).2.2.1) ?_
          show Steps p.tables e below (s₁.setTop (mkF m 125 #[.val (.long q0), .second, iv p1, iv (p1 &&& (3 : Int32)), .val (.long ((((p1 >>> ((2 : Int32) &&& 31)) &&& (15 : Int32)).toInt64) - (8 : Int64))), .second, iv v4, .val (.long val), .second, .unset] [])) _
          refine XS.iconst X0.here hx rfl (hb hby at_125) ?_
          show Steps p.tables e below (s₁.setTop (mkF m 126 #[.val (.long q0), .second, iv p1, iv (p1 &&& (3 : Int32)), .val (.long ((((p1 >>> ((2 : Int32) &&& 31)) &&& (15 : Int32)).toInt64) - (8 : Int64))), .second, iv v4, .val (.long val), .second, .unset] [(.int (1 : Int32))])) _
          refine XS.goto X0.here hx rfl (pc0 := 126) (pc' := 130) rfl (hb hby at_126) (by decide) (by decide) ?_
          exact kt
        exact ⟨(1 : Int32), Or.inr (Or.inr (⟨hc113, hc122, rfl⟩)), pre22⟩
  have pre25 : ∀ t, Steps p.tables e below (s₁.setTop (mkF m 134 #[.val (.long q0), .second, iv p1, iv (p1 &&& (3 : Int32)), .val (.long ((((p1 >>> ((2 : Int32) &&& 31)) &&& (15 : Int32)).toInt64) - (8 : Int64))), .second, iv v4, .val (.long val), .second, iv exp] [(.long val)])) t → Steps p.tables e below (s₁.setTop (entryFrame m #[(.long q0), (.int p1)] maxLocals)) t := by
    intro t kt
    refine pre24 _ ?_
    show Steps p.tables e below (s₁.setTop (mkF m 130 #[.val (.long q0), .second, iv p1, iv (p1 &&& (3 : Int32)), .val (.long ((((p1 >>> ((2 : Int32) &&& 31)) &&& (15 : Int32)).toInt64) - (8 : Int64))), .second, iv v4, .val (.long val), .second, .unset] [(.int exp)])) _
    refine XS.istore X0.here hx rfl (hb hby at_130) rfl (l' := #[.val (.long q0), .second, iv p1, iv (p1 &&& (3 : Int32)), .val (.long ((((p1 >>> ((2 : Int32) &&& 31)) &&& (15 : Int32)).toInt64) - (8 : Int64))), .second, iv v4, .val (.long val), .second, iv exp]) rfl ?_
    show Steps p.tables e below (s₁.setTop (mkF m 132 #[.val (.long q0), .second, iv p1, iv (p1 &&& (3 : Int32)), .val (.long ((((p1 >>> ((2 : Int32) &&& 31)) &&& (15 : Int32)).toInt64) - (8 : Int64))), .second, iv v4, .val (.long val), .second, iv exp] [])) _
    refine XS.lload X0.here hx rfl (hb hby at_132) rfl ?_
    exact kt
  obtain ⟨_, _, ⟨T26, L26, k26, n26⟩, -, X26, ⟨Lc26, hQ26, l26, y26, z26⟩, st26⟩ := Jvm.LawKit.callS X0 hx (y := (⟨"com/example/quadvar/quadvar/model/IntValue", "fits32Bits", "(J)Z"⟩ : MethodName)) hown (mvT hZ (hw _ (List.mem_of_getElem? (i := 3) rfl))) (mvT hZ (hw _ (List.mem_of_getElem? (i := 4) rfl))) (mvT hZ (hw _ (List.mem_of_getElem? (i := 5) rfl))) (mvT hZ (hw _ (List.mem_of_getElem? (i := 6) rfl))) (by decide) (backOf (W := 0) (rm1 l Z a0 hw [] val h0 n0 (Nat.le_trans Z0 (Keep.refl h0 []).1)) hZ (hw _ (List.mem_of_getElem? (i := 6) rfl)) (hw _ (List.mem_of_getElem? (i := 5) rfl)) (by decide) (by decide)) (g := (mkF m 134 #[.val (.long q0), .second, iv p1, iv (p1 &&& (3 : Int32)), .val (.long ((((p1 >>> ((2 : Int32) &&& 31)) &&& (15 : Int32)).toInt64) - (8 : Int64))), .second, iv v4, .val (.long val), .second, iv exp] [(.long val)])) rfl (by rw [hml]; rfl) (argsL := [(.long val)]) (rest := []) (lenOf pd2 rfl) rfl (by show 2 * 0 + _ ≤ _; exact Nat.le_of_eq rfl) (hb hby at_134) (fun _ _ => ⟨rfl, e0, (by decide : 0 + 0 ≤ _), (by decide : 0 + 0 ≤ _)⟩)
  dsimp only [Pt.U, Pt.locs, Pt.cells, Pt.slots] at X26 l26 y26 z26 st26 hQ26
  subst l26 y26 z26
  obtain ⟨rfl, N26q, hh26⟩ := hQ26
  have N26 := Fr.app N0 N26q
  have pre27 : ∀ t, Steps p.tables e below (T26.setTop (mkF m 139 #[.val (.long q0), .second, iv p1, iv (p1 &&& (3 : Int32)), .val (.long ((((p1 >>> ((2 : Int32) &&& 31)) &&& (15 : Int32)).toInt64) - (8 : Int64))), .second, iv v4, .val (.long val), .second, iv exp] [(.int exp), (.int (own_f val))])) t → Steps p.tables e below (s₁.setTop (entryFrame m #[(.long q0), (.int p1)] maxLocals)) t := by
    intro t kt
    refine pre25 _ ?_
    show Steps p.tables e below (s₁.setTop (mkF m 134 #[.val (.long q0), .second, iv p1, iv (p1 &&& (3 : Int32)), .val (.long ((((p1 >>> ((2 : Int32) &&& 31)) &&& (15 : Int32)).toInt64) - (8 : Int64))), .second, iv v4, .val (.long val), .second, iv exp] [(.long val)])) _
    refine st26 _ ?_
    show Steps p.tables e below (T26.setTop (mkF m 137 #[.val (.long q0), .second, iv p1, iv (p1 &&& (3 : Int32)), .val (.long ((((p1 >>> ((2 : Int32) &&& 31)) &&& (15 : Int32)).toInt64) - (8 : Int64))), .second, iv v4, .val (.long val), .second, iv exp] [(.int (own_f val))])) _
    refine XS.iload X26.here hx rfl (hb hby at_137) rfl ?_
    exact kt
  by_cases hc139 : (own_f val) = exp
  · have pre28 : ∀ t, Steps p.tables e below (T26.setTop (mkF m 147 #[.val (.long q0), .second, iv p1, iv (p1 &&& (3 : Int32)), .val (.long ((((p1 >>> ((2 : Int32) &&& 31)) &&& (15 : Int32)).toInt64) - (8 : Int64))), .second, iv v4, .val (.long val), .second, iv exp] [(.int (1 : Int32))])) t → Steps p.tables e below (s₁.setTop (entryFrame m #[(.long q0), (.int p1)] maxLocals)) t := by
      intro t kt
      refine pre27 _ ?_
      show Steps p.tables e below (T26.setTop (mkF m 139 #[.val (.long q0), .second, iv p1, iv (p1 &&& (3 : Int32)), .val (.long ((((p1 >>> ((2 : Int32) &&& 31)) &&& (15 : Int32)).toInt64) - (8 : Int64))), .second, iv v4, .val (.long val), .second, iv exp] [(.int exp), (.int (own_f val))])) _
      refine XS.icmpNo X26.here hx rfl (hb hby at_139) rfl (teq hc139).2 ?_
      show Steps p.tables e below (T26.setTop (mkF m 142 #[.val (.long q0), .second, iv p1, iv (p1 &&& (3 : Int32)), .val (.long ((((p1 >>> ((2 : Int32) &&& 31)) &&& (15 : Int32)).toInt64) - (8 : Int64))), .second, iv v4, .val (.long val), .second, iv exp] [])) _
      refine XS.iconst X26.here hx rfl (hb hby at_142) ?_
      show Steps p.tables e below (T26.setTop (mkF m 143 #[.val (.long q0), .second, iv p1, iv (p1 &&& (3 : Int32)), .val (.long ((((p1 >>> ((2 : Int32) &&& 31)) &&& (15 : Int32)).toInt64) - (8 : Int64))), .second, iv v4, .val (.long val), .second, iv exp] [(.int (1 : Int32))])) _
      refine XS.goto X26.here hx rfl (pc0 := 143) (pc' := 147) rfl (hb hby at_143) (by decide) (by decide) ?_
      exact kt
    obtain ⟨fs, hr, hrun, hended, hW, hsame⟩ := X26.leave (v := some (.int (1 : Int32))) (fun h => by rw [Bd.returns] at h; cases h)
    refine ⟨_, _, pre28 _ ?_, hrun, hended, _, _, rfl, ?_, ⟨_, rfl⟩, hW, hsame.mono (by decide) (by decide)⟩
    · show Steps p.tables e below (T26.setTop (mkF m 147 #[.val (.long q0), .second, iv p1, iv (p1 &&& (3 : Int32)), .val (.long ((((p1 >>> ((2 : Int32) &&& 31)) &&& (15 : Int32)).toInt64) - (8 : Int64))), .second, iv v4, .val (.long val), .second, iv exp] [(.int (1 : Int32))])) _
      exact retN X26 hx (t := .boolean) Bd.returns (by simp) (hb hby at_147) hr
    · show Q0 Z q0 p1 h0 n0 _ T26.heap _
      rw [hh26]
      exact ⟨rfl, N26⟩
  · have pre29 : ∀ t, Steps p.tables e below (T26.setTop (mkF m 147 #[.val (.long q0), .second, iv p1, iv (p1 &&& (3 : Int32)), .val (.long ((((p1 >>> ((2 : Int32) &&& 31)) &&& (15 : Int32)).toInt64) - (8 : Int64))), .second, iv v4, .val (.long val), .second, iv exp] [(.int (0 : Int32))])) t → Steps p.tables e below (s₁.setTop (entryFrame m #[(.long q0), (.int p1)] maxLocals)) t := by
      intro t kt
      refine pre27 _ ?_
      show Steps p.tables e below (T26.setTop (mkF m 139 #[.val (.long q0), .second, iv p1, iv (p1 &&& (3 : Int32)), .val (.long ((((p1 >>> ((2 : Int32) &&& 31)) &&& (15 : Int32)).toInt64) - (8 : Int64))), .second, iv v4, .val (.long val), .second, iv exp] [(.int exp), (.int (own_f val))])) _
      refine XS.icmpYes X26.here hx rfl (pc0 := 139) (pc' := 146) rfl (hb hby at_139) rfl (feq hc139).2 (by decide) (by decide) ?_
      show Steps p.tables e below (T26.setTop (mkF m 146 #[.val (.long q0), .second, iv p1, iv (p1 &&& (3 : Int32)), .val (.long ((((p1 >>> ((2 : Int32) &&& 31)) &&& (15 : Int32)).toInt64) - (8 : Int64))), .second, iv v4, .val (.long val), .second, iv exp] [])) _
      refine XS.iconst X26.here hx rfl (hb hby at_146) ?_
      exact kt
    exfalso
    refine hc139 ?_
    rw [own_fits]
    have q1 := lw_lt val (-2147483648)
    have q2 := lw_gt val 2147483647
    rw [Int64.lt_iff_toInt_lt] at q1 q2
    have k1 : (-2147483648 : Int64).toInt = -2147483648 := by decide
    have k2 : (2147483647 : Int64).toInt = 2147483647 := by decide
    rw [k1] at q1
    rw [k2] at q2
    rcases hexp with ⟨c1, rfl⟩ | ⟨c1, c2, rfl⟩ | ⟨c1, c2, rfl⟩
    · rw [if_neg]; have := q1.mp c1; omega
    · rw [if_neg]; have := q2.mp c2; omega
    · rw [if_pos]; have d1 := mt q1.mpr c1; have d2 := mt q2.mpr c2; omega
set_option maxRecDepth 65536 in
set_option maxHeartbeats 40000000 in
theorem comes_1 {Post : Tables → Env → Array Value → State → Outcome → State → Prop} (hpost : ∀ tb e args s v u, (limb_1_1.after args s (.returned v) u = true ∧ limb_1_2.after args s (.returned v) u = true ∧ True) → FrameEnd s (.returned v) u (Jvm.fieldLocs frame_1_writes args s ++ Jvm.arrayLocs frame_1_arrays args s ++ Jvm.staticLocs frame_1_statics s) 0 0 → Post tb e args s (.returned v) u) :
    ArmFor flags0 classFile x code maxLocals ret World_1 tables_1 room_1 Calls_1 rest_1 Pre_1 Post := by
  intro l hfl _ _ p e ha hc hk s m args below hf hA hF happ hP
  obtain ⟨hcalls, hrest, hpre⟩ := hP
  obtain ⟨-, -, -, hnamed, -, -, -, hat⟩ := (Spec.applies_iff hf).mp happ
  obtain ⟨hg, hn⟩ := and_e (Cond.before_iff.mp (show (Jvm.Cond.and given_1 narrow_1).before args s = true from hpre))
  obtain ⟨gg1, gg2⟩ := and_e hg
  obtain ⟨gg3, gg4⟩ := and_e gg2
  obtain ⟨w0, w1, rfl⟩ : ∃ w0 w1 : Value, args = #[w0, w1] := by
    have hs : args.size = 2 := by simpa [Cond.value, given_1] using gg1
    obtain ⟨L⟩ := args
    match L, hs with
    | [w0, w1], _ => exact ⟨w0, w1, rfl⟩
  have hw := fun d (hd : d ∈ tables_1) => atoms_spec (ws := Jvm.Cond.code x code maxLocals ret :: tables_1) hat d (List.mem_cons_of_mem _ hd)
  have hfit : Fit s := fun {y c} hc i hi => by
    obtain ⟨ha, rfl⟩ := Array.getElem?_eq_some_iff.mp hc
    have q := List.all_eq_true.mp ((Array.all_eq_true_iff_forall_mem.mp hF) _ (Array.getElem_mem ha)) i (List.mem_range.mpr hi)
    simpa [Array.getElem?_eq_getElem hi] using q
  obtain ⟨i0, ei0⟩ := isL_v gg3
  obtain rfl : w0 = (.long i0) := Option.some.inj ei0
  obtain ⟨i1, ei1⟩ := is_v gg4
  obtain rfl : w1 = (.int i1) := Option.some.inj ei1
  obtain ⟨n, o, h1, h2, h3, _, L, rfl, ⟨rfl, N⟩, hq⟩ := rm0 l s _ hw tables_1 i0 i1 s.heap s.heap.size (Nat.le_refl _) p e ha hc hk s m _ below hf ((Spec.applies_iff_loose hf).mp happ).1 ⟨rfl, State.Warmed39.refl s, rfl⟩ trivial
  refine ⟨n, _, h1, h2, h3, hpost _ _ _ _ _ _ ⟨Cond.after_iff.mpr rfl, Cond.after_iff.mpr (eq_i res_at (Term.int_eval (1)) rfl), trivial⟩ ⟨hq.1, hq.2.1, (hq.2.2.sift fun y hy => Or.inr (N y hy)).mono (by decide) (by decide)⟩⟩
theorem main_1_1 : Claimed_1_1 := comes_1 fun _ _ _ _ _ _ h hF => ⟨h.1, hF⟩
theorem main_1_2 : Claimed_1_2 := comes_1 fun _ _ _ _ _ _ h hF => ⟨h.2.1, hF⟩
end Jvm.Pilot.@@N@@
namespace Jvm.Pilot.@@N@@
open Jvm Jvm.ClassFile Sem Op Lib Jvm.Free Jvm.Stand Jvm.Pilot.@@N@@.Jvm.D
/-! MADE BY PROGRAM (witnessworld.py) out of the Statement's table words and the real class files: 11 classes; the members and pool entries that the words name. The judged class is class 1, her method 1. -/
namespace start1
open Jvm.ClassFile
def u (s : String) : CpInfo := .utf8 (stringToUtf16 s)
/-- a pool by its gaps: so many unusable entries, then the entry; so many at the end -/
def gap : Nat → List CpInfo → List CpInfo
  | 0, r => r
  | n + 1, r => .unusable :: gap n r
def poolList (es : List (Nat × CpInfo)) (last : Nat) : List CpInfo := es.foldr (fun e r => gap e.1 (e.2 :: r)) (gap last [])
def pool (es : List (Nat × CpInfo)) (last : Nat) : Array CpInfo := ⟨poolList es last⟩
def fileOf (pool : Array CpInfo) (this : Nat) (attrs : Array Attribute := #[]) (ms : Array MethodInfo := #[]) (fl : Nat := 33) (sup : Nat := 0) (ifs : Array Nat := #[]) (fds : Array FieldInfo := #[]) : ClassFile where
  minorVersion := 0
  majorVersion := 65
  constantPool := pool
  accessFlags := fl
  thisClass := this
  superClass := sup
  interfaces := ifs
  fields := fds
  methods := ms
  attributes := attrs
def plain (name : String) (sup : Option ClassId) : Class where
  name := name
  kind := .ordinary
  loader := none
  accessFlags := 33
  super := sup
  interfaces := #[]
  cf := none
  fields := #[]
  methods := #[]
  instanceTypes := #[]
  staticTypes := #[]
  resolved := #[]
  callSites := []
  init := .initialized
  statics := none
  mirror := none

def pool0 : Array CpInfo := pool [(5, u "<init>"), (0, u "()V"), (1, .class_ 10), (1, u "java/lang/Object")] 113

def k0m0 : Method := { name := "<init>", desc := "()V", sig := { parameters := [], returnType := none }, accessFlags := 1, code := none }
/-- java/lang/Object -/
def k0 : Class := { plain "java/lang/Object" none with
  accessFlags := 33
  interfaces := #[]
  cf := some (fileOf pool0 8 #[] #[{ accessFlags := 1, nameIndex := 5, descriptorIndex := 6, attributes := #[] }] 33 0 #[] #[])
  fields := #[]
  methods := #[k0m0]
  instanceTypes := #[]
  staticTypes := #[]
  resolved := Array.replicate 124 none
  statics := none }

def pool1 : Array CpInfo := pool [(2, .class_ 4), (1, u "java/lang/Object"), (0, u "<init>"), (0, u "()V"), (0, .long 8), (1, .long 18446744071562067968), (1, .long 2147483647), (3, .long 9223372036854775808), (1, .long 9223372036854775807), (1, .methodref 20 21), (0, .class_ 22), (0, .nameAndType 23 24), (0, u "com/example/quadvar/quadvar/model/IntValue"), (0, u "fits32Bits"), (0, u "(J)Z"), (0, .class_ 26), (0, u "com/example/quadvar/quadvar/model/IntValueFits32BitsPinLaw"), (2, u "law"), (0, u "(JI)Z")] 3

def k1m0 : Method := { name := "<init>", desc := "()V", sig := { parameters := [], returnType := none }, accessFlags := 1, code := none }
def k1c1 : Code := { maxStack := 6, maxLocals := 10, code := code, exceptionTable := #[], attributes := #[] }
def k1m1 : Method := { name := "law", desc := "(JI)Z", sig := { parameters := [.long, .int], returnType := some .boolean }, accessFlags := 9, code := some k1c1 }
/-- com/example/quadvar/quadvar/model/IntValueFits32BitsPinLaw -/
def k1 : Class := { plain "com/example/quadvar/quadvar/model/IntValueFits32BitsPinLaw" (some 0) with
  accessFlags := 49
  interfaces := #[]
  cf := some (fileOf pool1 25 #[] #[{ accessFlags := 1, nameIndex := 5, descriptorIndex := 6, attributes := #[] }, { accessFlags := 9, nameIndex := 29, descriptorIndex := 30, attributes := #[] }] 49 2 #[] #[])
  fields := #[]
  methods := #[k1m0, k1m1]
  instanceTypes := #[]
  staticTypes := #[]
  resolved := Array.replicate 34 none
  statics := none }

def pool2 : Array CpInfo := pool [(2, .class_ 4), (1, u "java/lang/Object"), (0, u "<init>"), (0, u "()V"), (0, .class_ 8), (0, u "java/lang/Record")] 13

def k2m0 : Method := { name := "<init>", desc := "()V", sig := { parameters := [], returnType := none }, accessFlags := 4, code := none }
/-- java/lang/Record -/
def k2 : Class := { plain "java/lang/Record" (some 0) with
  accessFlags := 1057
  interfaces := #[]
  cf := some (fileOf pool2 7 #[] #[{ accessFlags := 4, nameIndex := 5, descriptorIndex := 6, attributes := #[] }] 1057 2 #[] #[])
  fields := #[]
  methods := #[k2m0]
  instanceTypes := #[]
  staticTypes := #[]
  resolved := Array.replicate 22 none
  statics := none }

def pool3 : Array CpInfo := pool [(1, .class_ 2), (0, u "com/example/quadvar/quadvar/model/Variant"), (6, .class_ 10), (0, u "java/lang/Object"), (0, u "MAX_NESTING"), (0, u "I"), (2, u "NESTING_TOO_DEEP"), (0, u "Ljava/lang/String;")] 52

/-- com/example/quadvar/quadvar/model/Variant -/
def k3 : Class := { plain "com/example/quadvar/quadvar/model/Variant" (some 0) with
  accessFlags := 1537
  interfaces := #[]
  cf := some (fileOf pool3 1 #[] #[] 1537 9 #[] #[{ accessFlags := 25, nameIndex := 11, descriptorIndex := 12, attributes := #[] }, { accessFlags := 25, nameIndex := 15, descriptorIndex := 16, attributes := #[] }])
  fields := #[{ name := "MAX_NESTING", type := .int, accessFlags := 25, slot := 0, constantValue := 0 }, { name := "NESTING_TOO_DEEP", type := (.object "java/lang/String"), accessFlags := 25, slot := 1, constantValue := 0 }]
  methods := #[]
  instanceTypes := #[]
  staticTypes := #[.int, (.object "java/lang/String")]
  resolved := Array.replicate 69 none
  statics := none }

def pool4 : Array CpInfo := pool [(2, .class_ 4), (1, u "java/lang/Record"), (3, .class_ 10), (1, u "com/example/quadvar/quadvar/model/IntValue"), (0, u "fits32Bits"), (0, u "(J)Z"), (11, u "value"), (0, u "J"), (2, u "wide"), (0, u "Z"), (21, .class_ 52), (0, u "com/example/quadvar/quadvar/model/Variant")] 42

def k4c0 : Code := { maxStack := 4, maxLocals := 2, code := prog_30_method_3_code, exceptionTable := #[], attributes := #[] }
def k4m0 : Method := { name := "fits32Bits", desc := "(J)Z", sig := { parameters := [.long], returnType := some .boolean }, accessFlags := 9, code := some k4c0 }
/-- com/example/quadvar/quadvar/model/IntValue -/
def k4 : Class := { plain "com/example/quadvar/quadvar/model/IntValue" (some 2) with
  accessFlags := 49
  interfaces := #[3]
  cf := some (fileOf pool4 8 #[] #[{ accessFlags := 9, nameIndex := 11, descriptorIndex := 12, attributes := #[] }] 49 2 #[51] #[{ accessFlags := 18, nameIndex := 24, descriptorIndex := 25, attributes := #[] }, { accessFlags := 18, nameIndex := 28, descriptorIndex := 29, attributes := #[] }])
  fields := #[{ name := "value", type := .long, accessFlags := 18, slot := 0, constantValue := 0 }, { name := "wide", type := .boolean, accessFlags := 18, slot := 1, constantValue := 0 }]
  methods := #[k4m0]
  instanceTypes := #[.long, .boolean]
  staticTypes := #[]
  resolved := Array.replicate 95 none
  statics := none }

def pool5 : Array CpInfo := pool [(1, u "java/lang/Cloneable"), (0, .class_ 1), (0, u "java/lang/Object"), (0, .class_ 3)] 3

/-- java/lang/Cloneable -/
def k5 : Class := { plain "java/lang/Cloneable" (some 0) with
  accessFlags := 1537
  interfaces := #[]
  cf := some (fileOf pool5 2 #[] #[] 1537 4 #[] #[])
  fields := #[]
  methods := #[]
  instanceTypes := #[]
  staticTypes := #[]
  resolved := Array.replicate 8 none
  statics := none }

def pool6 : Array CpInfo := pool [(1, u "java/io/Serializable"), (0, .class_ 1), (0, u "java/lang/Object"), (0, .class_ 3)] 3

/-- java/io/Serializable -/
def k6 : Class := { plain "java/io/Serializable" (some 0) with
  accessFlags := 1537
  interfaces := #[]
  cf := some (fileOf pool6 2 #[] #[] 1537 4 #[] #[])
  fields := #[]
  methods := #[]
  instanceTypes := #[]
  staticTypes := #[]
  resolved := Array.replicate 8 none
  statics := none }

/-- the primitive byte -/
def k7 : Class := { plain "byte" none with kind := .primitive 'B', accessFlags := 0x411 }
/-- [B -/
def k8 : Class := { plain "[B" (some 0) with kind := .array 7 .byte, interfaces := #[5, 6], accessFlags := 1041 }

/-- the primitive int -/
def k9 : Class := { plain "int" none with kind := .primitive 'I', accessFlags := 0x411 }
/-- [I -/
def k10 : Class := { plain "[I" (some 0) with kind := .array 9 .int, interfaces := #[5, 6], accessFlags := 1041 }

def heap : Heap := #[]
def classes : Array Class := #[k0, k1, k2, k3, k4, k5, k6, k7, k8, k9, k10]
def interned : List (Array UInt16 × Addr) := []
def slotsUsed : Nat := 0
def theMethod : MethodId := ⟨1, 1⟩
def args0 : Array Value := #[.long 5, .int 6]
def aboutOver (below : List Frame) : State where
  vm := { classes := classes, interned := interned.toArray }
  heap := heap
  slotsUsed := slotsUsed
  threads := #[{ frames := .invoking theMethod args0 :: below }]
def below0 : List Frame := [.native { method := ⟨0, 0⟩, args := #[] }]
def about1 : State := aboutOver below0
def p0 : Program := .bare "" "" ""
def e0 : Env := launch0.env 0 0 0
theorem w_frames : about1.frames = Frame.invoking theMethod args0 :: below0 := rfl
set_option maxRecDepth 65536 in
theorem w_args : argsFit about1.vm theMethod args0 = true := by decide +kernel
set_option maxRecDepth 65536 in
theorem w_heap : heapFits about1 = true := by decide +kernel
set_option maxRecDepth 65536 in
theorem w_runnable : about1.curStatus? = some .runnable := by decide +kernel
set_option maxRecDepth 65536 in
theorem w_alone : about1.alone = true := by decide +kernel
set_option maxRecDepth 65536 in
theorem w_named : about1.methodNamed? x = some theMethod := by decide +kernel
set_option maxRecDepth 65536 in
theorem w_hears : about1.hears theMethod below0 = true := by decide +kernel
set_option maxRecDepth 65536 in
theorem w_ripe : about1.ripe theMethod args0 below0 = true := by decide +kernel
theorem w_running : about1.status = .running := rfl
set_option maxRecDepth 65536 in
theorem w_room : about1.hasRoom e0.platform room_1 = true :=
  launch0.hasRoom_least _ room_1 (by decide +kernel) (by decide +kernel) (by decide +kernel) (by decide +kernel) (by decide +kernel) (by decide +kernel)
theorem allAtoms_all (ts : List Jvm.Cond) (a : Array Jvm.Value) (st : Jvm.State) : (allAtoms ts).before a st = ts.all (fun c => c.before a st) := by
  induction ts with
  | nil => rfl
  | cons c t ih =>
    show (Jvm.Cond.and c (allAtoms t)).before a st = _
    rw [Jvm.Cond.before_and, ih, List.all_cons]
def words1 : List Jvm.Cond := Jvm.Cond.code x code maxLocals ret :: tables_1
/-- a 'code' word, met by the world's own term for the bytes: nothing is compared byte by byte -/
theorem code_word {y : MethodName} {bytes : ByteArray} {mx : Nat} {rt : Option FieldType} {a : Array Value} {s : State} {m : MethodId} {meth : Method} {c : Code} (h1 : s.methodNamed? y = some m) (h2 : s.vm.method? m = some meth) (h3 : meth.code = some c) (h4 : c.code = bytes)
    (h5 : (c.maxLocals == mx && c.exceptionTable.isEmpty && decide (c.maxStack ≤ mostOperands) && decide (meth.sig.returnType = rt) && !meth.locks && decide (parseMethodDescriptor y.desc = some meth.sig)) = true) : (Jvm.Cond.code y bytes mx rt).before a s = true := by
  simp only [Bool.and_eq_true, beq_iff_eq, Bool.not_eq_true', decide_eq_true_eq] at h5
  obtain ⟨⟨⟨⟨⟨g1, g2⟩, g3⟩, g4⟩, g5⟩, g6⟩ := h5
  simp [Cond.before, Cond.holds, Cond.value, h1, h2, h3, h4, g1, g2, g3, g4, g5, g6]
def isCode : Jvm.Cond → Bool
  | .code _ _ _ _ => true
  | _ => false
theorem all_split {L : List Jvm.Cond} {P : Jvm.Cond → Bool} (h1 : L.all (fun c => isCode c || P c) = true) (h2 : ∀ c ∈ L.filter isCode, P c = true) : L.all P = true := by
  refine List.all_eq_true.mpr fun c hc => ?_
  have h := List.all_eq_true.mp h1 c hc
  rcases Bool.eq_false_or_eq_true (isCode c) with hi | hi
  · exact h2 c (List.mem_filter.mpr ⟨hc, hi⟩)
  · simpa [hi] using h
set_option maxRecDepth 65536 in
theorem w_c0 : (Jvm.Cond.code x code maxLocals ret).before args0 about1 = true := code_word (m := ⟨1, 1⟩) (meth := k1m1) (c := k1c1) (by decide +kernel) rfl rfl rfl (by decide +kernel)
set_option maxRecDepth 65536 in
theorem w_c1 : (Jvm.Cond.code ({ cls := "com/example/quadvar/quadvar/model/IntValue", name := "fits32Bits", desc := "(J)Z" } : Jvm.MethodName) prog_30_method_3_code (2 : Nat) (Option.some Jvm.ClassFile.FieldType.boolean)).before args0 about1 = true := code_word (m := ⟨4, 0⟩) (meth := k4m0) (c := k4c0) (by decide +kernel) rfl rfl rfl (by decide +kernel)
def codes1 : List Jvm.Cond := [Jvm.Cond.code x code maxLocals ret, Jvm.Cond.code ({ cls := "com/example/quadvar/quadvar/model/IntValue", name := "fits32Bits", desc := "(J)Z" } : Jvm.MethodName) prog_30_method_3_code (2 : Nat) (Option.some Jvm.ClassFile.FieldType.boolean)]
set_option maxRecDepth 65536 in
theorem codes_eq : words1.filter isCode = codes1 := rfl
theorem w_codes : ∀ c ∈ words1.filter isCode, c.before args0 about1 = true := by
  rw [codes_eq]
  intro c hc
  simp only [codes1, List.mem_cons, List.not_mem_nil, or_false] at hc
  rcases hc with rfl | rfl
  · exact w_c0
  · exact w_c1
set_option maxRecDepth 65536 in
theorem w_t1 : words1.all (fun c => isCode c || c.before args0 about1) = true := by decide +kernel
theorem w_tables : (allAtoms (Jvm.Cond.code x code maxLocals ret :: tables_1)).before args0 about1 = true := by
  rw [allAtoms_all]
  show words1.all (fun c => c.before args0 about1) = true
  refine all_split ?_ w_codes
  rw [w_t1]
set_option maxRecDepth 65536 in
theorem w_case : (Jvm.Cond.and given_1 narrow_1).before args0 about1 = true := by decide +kernel
theorem w_applies : (headSpec (Jvm.Cond.code x code maxLocals ret :: tables_1) room_1).applies x e0.platform about1 = true :=
  (Spec.applies_iff w_frames).mpr ⟨w_running, w_runnable, w_alone, w_named, w_hears, w_ripe, w_room, w_tables⟩
theorem atStart : AtStart classFile x code maxLocals ret World_1 tables_1 room_1 Calls_1 rest_1 Pre_1 launch0 p0 e0 about1 theMethod args0 below0 :=
  ⟨lists_1, trivial, launch0.admits_env _ _ _, launch0.least_env, fairChoices_fair.cas, fairChoices_fair.clock, w_frames, w_args, w_heap, w_applies, trivial, trivial, w_case⟩
end start1
theorem witness_1 : WitnessClaimed_1 := ⟨start1.p0, start1.e0, start1.about1, start1.theMethod, start1.args0, start1.below0, start1.atStart⟩
end Jvm.Pilot.@@N@@
