import JvmDerived
import JvmDerived.Pilot.@@N@@Statement
import JvmDerived.Pilot.@@N@@Code
set_option linter.unusedVariables false
set_option linter.unusedSimpArgs false
namespace Jvm.RoadKit
open Sem ClassFile Op Lib Jvm.Stand Jvm.Free Jvm.LawKit
section New
variable {p : Program} {l : Launch} {e : Env} {R : Room} {s : State} {m : MethodId} {args : Array Value} {below : List Frame} {meth : Method} {c : Code} {T : State} {locs : List Loc} {cells slots : Nat}
theorem retI (X : Stand p l e R s m args below meth c T locs cells slots) (hx : p.tables.exec = Jvm.exec) {pc : Nat} {Ls : Array Slot} {z : Int32} {rest : List Value} (hret : meth.sig.returnType = some .int) (hd : decode c.code pc = .ok (.ireturn, 1)) {fs : List Frame}
    (hl : ∀ (f : JFrame) (acts : List Action), f.method = m → f.locked = none → f.entered = [] → (doReturn e (T.setTop f) acts (some (.int z))).1 = T.setFrames fs) : Steps p.tables e below (T.setTop (mkF m pc Ls (.int z :: rest))) (T.setFrames fs) := by
  have hm' : T.vm.method? m = some meth := X.method'
  have hn : narrow .int (.int z) = .int z := rfl
  show Steps p.tables e below (T.setTop { method := m, pc := pc, locals := Ls, stack := _ :: rest, locked := none }) _
  jvm_step X.here [X.here.top, hx, hd, hm', hret, hn]
  first | (intro acts; rw [hl _ acts rfl rfl rfl]) | rw [hl _ _ rfl rfl rfl]
  exact Steps.refl _
end New
end Jvm.RoadKit

namespace Jvm.Pilot.@@N@@
open Jvm Jvm.ClassFile Sem Op Lib Jvm.Free Jvm.Stand Jvm.LawKit Jvm.RoadKit Bundle Jvm.Pilot.@@N@@.Jvm.D
def own_sel (n : Int64) : Int64 := if (lcmpW n (9223372036854775807 : Int64)) = (0 : Int32) then 0 else if (lcmpW n (1000000 : Int64)) < (0 : Int32) then -1 else n / (1000000 : Int64)
theorem own_w64 (x y : Int) (h : (x - y) % 18446744073709551616 = 0) (h1 : -9223372036854775808 ≤ x ∧ x < 9223372036854775808) (h2 : 0 ≤ y ∧ y < 9223372036854775808) : x = y := by
  have h3 := Int.emod_add_mul_ediv (x - y) 18446744073709551616
  rw [h] at h3
  generalize (x - y) / 18446744073709551616 = q at h3
  omega
theorem own_div (n r : Int) (h : 1000000 ≤ n) (h' : n < 9223372036854775808) (q : r = n / 1000000) : 0 ≤ r * 1000000 ∧ r * 1000000 < 9223372036854775808 ∧ 0 ≤ n - r * 1000000 ∧ n - r * 1000000 < 1000000 ∧ ¬ r < 1 ∧ ¬ 9223372036854 < r := by
  subst q
  have e1 := Int.emod_add_mul_ediv n 1000000
  have e2 := Int.emod_nonneg n (show (1000000 : Int) ≠ 0 by decide)
  have e3 := Int.emod_lt_of_pos n (show (0 : Int) < 1000000 by decide)
  generalize n / 1000000 = d at *
  generalize n % 1000000 = m at *
  refine ⟨?_, ?_, ?_, ?_, ?_, ?_⟩ <;> omega
theorem own_law (n r : Int64) (hr : r = own_sel n) :
    ((lcmpW n (9223372036854775807 : Int64)) = (0 : Int32) → (lcmpW r (0 : Int64)) = (0 : Int32)) ∧
    (¬ ((lcmpW n (9223372036854775807 : Int64)) = (0 : Int32)) → (lcmpW n (1000000 : Int64)) < (0 : Int32) → (lcmpW r (-1 : Int64)) = (0 : Int32)) ∧
    (¬ ((lcmpW n (9223372036854775807 : Int64)) = (0 : Int32)) → ¬ ((lcmpW n (1000000 : Int64)) < (0 : Int32)) →
      ¬ ((lcmpW r (1 : Int64)) < (0 : Int32)) ∧ ¬ ((0 : Int32) < (lcmpW r (9223372036854 : Int64))) ∧ ¬ ((lcmpW (n - (r * (1000000 : Int64))) (0 : Int64)) < (0 : Int32)) ∧ (lcmpW (n - (r * (1000000 : Int64))) (1000000 : Int64)) < (0 : Int32)) := by
  refine ⟨fun h1 => ?_, fun h1 h2 => ?_, fun h1 h2 => ?_⟩
  · have e : r = 0 := by rw [hr, own_sel, if_pos h1]
    rw [e]; exact (lw_eq _ _).mpr rfl
  · have e : r = -1 := by rw [hr, own_sel, if_neg h1, if_pos h2]
    rw [e]; exact (lw_eq _ _).mpr rfl
  · have e : r = n / (1000000 : Int64) := by rw [hr, own_sel, if_neg h1, if_neg h2]
    rw [lw_lt, Int64.lt_iff_toInt_lt] at h2
    have m2 : (1000000 : Int64).toInt = 1000000 := by decide
    have m3 : (9223372036854 : Int64).toInt = 9223372036854 := by decide
    have m0 : (0 : Int64).toInt = 0 := by decide
    have m1 : (1 : Int64).toInt = 1 := by decide
    rw [m2] at h2
    have rn := rng64 n
    have hn := Int.not_lt.mp h2
    have q := (c_ldiv n 1000000 1000000 m2 (by decide)).1 (Int.le_trans (by decide) hn)
    rw [← e] at q
    obtain ⟨d1, d2, d3, d4, d5, d6⟩ := own_div n.toInt r.toInt hn rn.2 q
    have k1 := c_lmul r 1000000
    have k2 := c_lsub n (r * 1000000)
    rw [m2] at k1
    have k3 : (r * 1000000).toInt = r.toInt * 1000000 := own_w64 _ _ k1 (rng64 _) ⟨d1, d2⟩
    rw [k3] at k2
    have k4 : (n - r * 1000000).toInt = n.toInt - r.toInt * 1000000 := own_w64 _ _ k2 (rng64 _) ⟨d3, Int.lt_trans d4 (by decide)⟩
    rw [lw_lt, lw_gt, lw_lt, lw_lt, Int64.lt_iff_toInt_lt, Int64.lt_iff_toInt_lt, Int64.lt_iff_toInt_lt, Int64.lt_iff_toInt_lt, k4, m0, m1, m2, m3]
    exact ⟨d5, d6, Int.not_lt.mpr d3, d4⟩
theorem pn0 : plainName "com/example/loopsmith/loopsmith/queue/WatchedChannels" = true := by first | (simp [plainName, overriddenIn]; done) | decide +kernel
theorem d1_0 : decode prog_45_method_11_code 0 = .ok (.lload_n 0, 1) := by decide +kernel
theorem d1_1 : decode prog_45_method_11_code 1 = .ok (.ldc2_w 219, 3) := by decide +kernel
theorem d1_4 : decode prog_45_method_11_code 4 = .ok (.lcmp, 1) := by decide +kernel
theorem d1_5 : decode prog_45_method_11_code 5 = .ok (.ifCond .ne 8, 3) := by decide +kernel
theorem d1_8 : decode prog_45_method_11_code 8 = .ok (.lconst 0, 1) := by decide +kernel
theorem d1_9 : decode prog_45_method_11_code 9 = .ok (.lstore_n 2, 1) := by decide +kernel
theorem d1_10 : decode prog_45_method_11_code 10 = .ok (.goto 24, 3) := by decide +kernel
theorem d1_34 : decode prog_45_method_11_code 34 = .ok (.lload_n 2, 1) := by decide +kernel
theorem d1_35 : decode prog_45_method_11_code 35 = .ok (.lreturn, 1) := by decide +kernel
theorem d1_13 : decode prog_45_method_11_code 13 = .ok (.lload_n 0, 1) := by decide +kernel
theorem d1_14 : decode prog_45_method_11_code 14 = .ok (.ldc2_w 221, 3) := by decide +kernel
theorem d1_17 : decode prog_45_method_11_code 17 = .ok (.lcmp, 1) := by decide +kernel
theorem d1_18 : decode prog_45_method_11_code 18 = .ok (.ifCond .ge 10, 3) := by decide +kernel
theorem d1_21 : decode prog_45_method_11_code 21 = .ok (.ldc2_w 223, 3) := by decide +kernel
theorem d1_24 : decode prog_45_method_11_code 24 = .ok (.lstore_n 2, 1) := by decide +kernel
theorem d1_25 : decode prog_45_method_11_code 25 = .ok (.goto 9, 3) := by decide +kernel
theorem d1_28 : decode prog_45_method_11_code 28 = .ok (.lload_n 0, 1) := by decide +kernel
theorem d1_29 : decode prog_45_method_11_code 29 = .ok (.ldc2_w 221, 3) := by decide +kernel
theorem d1_32 : decode prog_45_method_11_code 32 = .ok (.ldiv, 1) := by decide +kernel
theorem d1_33 : decode prog_45_method_11_code 33 = .ok (.lstore_n 2, 1) := by decide +kernel
theorem ef_1 (m : MethodId) (x0 : Int64) : entryFrame m #[(.long x0)] 4 = mkF m 0 #[.val (.long x0), .second, .unset, .unset] [] := by first | (simp [entryFrame, mkF, argsToLocals, Value.category]; done) | rfl
def Q1 (Z : State) (q0 : Int64) (h0 : Heap) (n0 : Nat) (v : Option Value) (h : Heap) (L : List Loc) : Prop := v = some (.long (own_sel q0)) ∧ Fr n0 L ∧ h = h0
set_option maxRecDepth 65536 in
set_option maxHeartbeats 40000000 in
theorem rm1 (l : Launch) (Z : State) (a0 : Array Value) (hw : ∀ d ∈ tables_1, d.before a0 Z = true) (ws : List Jvm.Cond) (q0 : Int64) (h0 : Heap) (n0 : Nat) (Z0 : n0 ≤ h0.size) :
    MetFree l (⟨"com/example/loopsmith/loopsmith/queue/WatchedChannels", "selectMillis", "(J)J"⟩ : MethodName) (head1 (Jvm.Cond.code (⟨"com/example/loopsmith/loopsmith/queue/WatchedChannels", "selectMillis", "(J)J"⟩ : MethodName) prog_45_method_11_code 4 (some .long) :: ws) ({ frames := 0, cells := 0, slots := 0, locals := 0 } : Room)) (fun a U => a = #[(.long q0)] ∧ Z.Warmed39 U.vm ∧ U.heap = h0) (fun _ _ _ _ _ => True) (fun _ U o U' => ∃ v L, o = .returned v ∧ Q1 Z q0 h0 n0 v U'.heap L ∧ FrameEnd U o U' L ({ frames := 0, cells := 0, slots := 0, locals := 0 } : Room).cells ({ frames := 0, cells := 0, slots := 0, locals := 0 } : Room).slots) := by
  refine MetFree.of_bodySF (plainFor_of_name pn0) hisR ?_
  intro p e s m args below meth c s₁ Bd hml0 hP hK
  obtain ⟨rfl, hZ, hh⟩ := hP
  have hx := Bd.exec
  have hby := Bd.bytes
  have hml : c.maxLocals = 4 := hml0
  have hown : s.vm.findClass "com/example/loopsmith/loopsmith/queue/WatchedChannels" = some m.cls := findClass_of_methodNamed Bd.named
  have hnm := (name_of_methodNamed Bd.named Bd.method).1
  have X0 : Stand p l e ({ frames := 0, cells := 0, slots := 0, locals := 0 } : Room) s m #[(.long q0)] below meth c s₁ [] 0 0 := Stand.of_body Bd
  have e0 : s₁.heap = h0 := by rw [← hh, Bd.state]; rfl
  have N0 := Fr.nil n0
  have pre0 : ∀ t, Steps p.tables e below (s₁.setTop (mkF m 0 #[.val (.long q0), .second, .unset, .unset] [])) t → Steps p.tables e below (s₁.setTop (entryFrame m #[(.long q0)] 4)) t := fun t k => castTop (ef_1 m q0) k
  have pre1 : ∀ t, Steps p.tables e below (s₁.setTop (mkF m 5 #[.val (.long q0), .second, .unset, .unset] [(.int (lcmpW q0 (9223372036854775807 : Int64)))])) t → Steps p.tables e below (s₁.setTop (entryFrame m #[(.long q0)] 4)) t := by
    intro t kt
    refine pre0 _ ?_
    show Steps p.tables e below (s₁.setTop (mkF m 0 #[.val (.long q0), .second, .unset, .unset] [])) _
    refine XS.lloadN X0.here hx rfl (hb hby d1_0) rfl ?_
    show Steps p.tables e below (s₁.setTop (mkF m 1 #[.val (.long q0), .second, .unset, .unset] [(.long q0)])) _
    refine X0.ldc2Long hx hown (mvT hZ (hw _ (List.mem_of_getElem? (i := 5) rfl))) (g := (mkF m 1 #[.val (.long q0), .second, .unset, .unset] [(.long q0)])) rfl (hb hby d1_1) _ ?_
    show Steps p.tables e below (s₁.setTop (mkF m 4 #[.val (.long q0), .second, .unset, .unset] [(.long (9223372036854775807 : Int64)), (.long q0)])) _
    refine XS.lcmp X0.here hx rfl (hb hby d1_4) rfl ?_
    exact kt
  by_cases hc5 : (lcmpW q0 (9223372036854775807 : Int64)) = (0 : Int32)
  · have pre2 : ∀ t, Steps p.tables e below (s₁.setTop (mkF m 35 #[.val (.long q0), .second, .val (.long (0 : Int64)), .second] [(.long (0 : Int64))])) t → Steps p.tables e below (s₁.setTop (entryFrame m #[(.long q0)] 4)) t := by
      intro t kt
      refine pre1 _ ?_
      show Steps p.tables e below (s₁.setTop (mkF m 5 #[.val (.long q0), .second, .unset, .unset] [(.int (lcmpW q0 (9223372036854775807 : Int64)))])) _
      refine XS.ifNo X0.here hx rfl (hb hby d1_5) rfl ((if0 _ _).trans (teq hc5).2) ?_
      show Steps p.tables e below (s₁.setTop (mkF m 8 #[.val (.long q0), .second, .unset, .unset] [])) _
      refine XS.lconst X0.here hx rfl (hb hby d1_8) ?_
      show Steps p.tables e below (s₁.setTop (mkF m 9 #[.val (.long q0), .second, .unset, .unset] [(.long (0 : Int64))])) _
      refine XS.lstoreN X0.here hx rfl (hb hby d1_9) rfl (l' := #[.val (.long q0), .second, .val (.long (0 : Int64)), .second]) rfl ?_
      show Steps p.tables e below (s₁.setTop (mkF m 10 #[.val (.long q0), .second, .val (.long (0 : Int64)), .second] [])) _
      refine XS.goto X0.here hx rfl (pc0 := 10) (pc' := 34) rfl (hb hby d1_10) (by decide) (by decide) ?_
      show Steps p.tables e below (s₁.setTop (mkF m 34 #[.val (.long q0), .second, .val (.long (0 : Int64)), .second] [])) _
      refine XS.lloadN X0.here hx rfl (hb hby d1_34) rfl ?_
      exact kt
    obtain ⟨fs, hr, hrun, hended, hW, hsame⟩ := X0.leave (v := some (.long (0 : Int64))) (fun h => by rw [Bd.returns] at h; cases h)
    refine ⟨_, _, pre2 _ ?_, hrun, hended, _, _, rfl, ?_, ⟨_, rfl⟩, hW, hsame.mono (by decide) (by decide)⟩
    · show Steps p.tables e below (s₁.setTop (mkF m 35 #[.val (.long q0), .second, .val (.long (0 : Int64)), .second] [(.long (0 : Int64))])) _
      jvm_step X0.here [X0.here.top, hx, (hb hby d1_35), X0.method', Bd.returns, narrow]
      first | (intro acts; rw [hr _ acts rfl rfl rfl]) | rw [hr _ _ rfl rfl rfl]
      exact Steps.refl _
    · show Q1 Z q0 h0 n0 _ s₁.heap _
      rw [e0]
      exact ⟨congrArg (fun z => some (Value.long z)) ((if_pos hc5).trans rfl).symm, N0, rfl⟩
  · have pre3 : ∀ t, Steps p.tables e below (s₁.setTop (mkF m 18 #[.val (.long q0), .second, .unset, .unset] [(.int (lcmpW q0 (1000000 : Int64)))])) t → Steps p.tables e below (s₁.setTop (entryFrame m #[(.long q0)] 4)) t := by
      intro t kt
      refine pre1 _ ?_
      show Steps p.tables e below (s₁.setTop (mkF m 5 #[.val (.long q0), .second, .unset, .unset] [(.int (lcmpW q0 (9223372036854775807 : Int64)))])) _
      refine XS.ifYes X0.here hx rfl (pc0 := 5) (pc' := 13) rfl (hb hby d1_5) rfl ((if0 _ _).trans (feq hc5).2) (by decide) (by decide) ?_
      show Steps p.tables e below (s₁.setTop (mkF m 13 #[.val (.long q0), .second, .unset, .unset] [])) _
      refine XS.lloadN X0.here hx rfl (hb hby d1_13) rfl ?_
      show Steps p.tables e below (s₁.setTop (mkF m 14 #[.val (.long q0), .second, .unset, .unset] [(.long q0)])) _
      refine X0.ldc2Long hx hown (mvT hZ (hw _ (List.mem_of_getElem? (i := 6) rfl))) (g := (mkF m 14 #[.val (.long q0), .second, .unset, .unset] [(.long q0)])) rfl (hb hby d1_14) _ ?_
      show Steps p.tables e below (s₁.setTop (mkF m 17 #[.val (.long q0), .second, .unset, .unset] [(.long (1000000 : Int64)), (.long q0)])) _
      refine XS.lcmp X0.here hx rfl (hb hby d1_17) rfl ?_
      exact kt
    by_cases hc18 : (lcmpW q0 (1000000 : Int64)) < (0 : Int32)
    · have pre4 : ∀ t, Steps p.tables e below (s₁.setTop (mkF m 35 #[.val (.long q0), .second, .val (.long (-1 : Int64)), .second] [(.long (-1 : Int64))])) t → Steps p.tables e below (s₁.setTop (entryFrame m #[(.long q0)] 4)) t := by
        intro t kt
        refine pre3 _ ?_
        show Steps p.tables e below (s₁.setTop (mkF m 18 #[.val (.long q0), .second, .unset, .unset] [(.int (lcmpW q0 (1000000 : Int64)))])) _
        refine XS.ifNo X0.here hx rfl (hb hby d1_18) rfl ((if0 _ _).trans (tlt hc18).2.1) ?_
        show Steps p.tables e below (s₁.setTop (mkF m 21 #[.val (.long q0), .second, .unset, .unset] [])) _
        refine X0.ldc2Long hx hown (mvT hZ (hw _ (List.mem_of_getElem? (i := 7) rfl))) (g := (mkF m 21 #[.val (.long q0), .second, .unset, .unset] [])) rfl (hb hby d1_21) _ ?_
        show Steps p.tables e below (s₁.setTop (mkF m 24 #[.val (.long q0), .second, .unset, .unset] [(.long (-1 : Int64))])) _
        refine XS.lstoreN X0.here hx rfl (hb hby d1_24) rfl (l' := #[.val (.long q0), .second, .val (.long (-1 : Int64)), .second]) rfl ?_
        show Steps p.tables e below (s₁.setTop (mkF m 25 #[.val (.long q0), .second, .val (.long (-1 : Int64)), .second] [])) _
        refine XS.goto X0.here hx rfl (pc0 := 25) (pc' := 34) rfl (hb hby d1_25) (by decide) (by decide) ?_
        show Steps p.tables e below (s₁.setTop (mkF m 34 #[.val (.long q0), .second, .val (.long (-1 : Int64)), .second] [])) _
        refine XS.lloadN X0.here hx rfl (hb hby d1_34) rfl ?_
        exact kt
      obtain ⟨fs, hr, hrun, hended, hW, hsame⟩ := X0.leave (v := some (.long (-1 : Int64))) (fun h => by rw [Bd.returns] at h; cases h)
      refine ⟨_, _, pre4 _ ?_, hrun, hended, _, _, rfl, ?_, ⟨_, rfl⟩, hW, hsame.mono (by decide) (by decide)⟩
      · show Steps p.tables e below (s₁.setTop (mkF m 35 #[.val (.long q0), .second, .val (.long (-1 : Int64)), .second] [(.long (-1 : Int64))])) _
        jvm_step X0.here [X0.here.top, hx, (hb hby d1_35), X0.method', Bd.returns, narrow]
        first | (intro acts; rw [hr _ acts rfl rfl rfl]) | rw [hr _ _ rfl rfl rfl]
        exact Steps.refl _
      · show Q1 Z q0 h0 n0 _ s₁.heap _
        rw [e0]
        exact ⟨congrArg (fun z => some (Value.long z)) ((if_neg hc5).trans ((if_pos hc18).trans rfl)).symm, N0, rfl⟩
    · have pre5 : ∀ t, Steps p.tables e below (s₁.setTop (mkF m 35 #[.val (.long q0), .second, .val (.long (q0 / (1000000 : Int64))), .second] [(.long (q0 / (1000000 : Int64)))])) t → Steps p.tables e below (s₁.setTop (entryFrame m #[(.long q0)] 4)) t := by
        intro t kt
        refine pre3 _ ?_
        show Steps p.tables e below (s₁.setTop (mkF m 18 #[.val (.long q0), .second, .unset, .unset] [(.int (lcmpW q0 (1000000 : Int64)))])) _
        refine XS.ifYes X0.here hx rfl (pc0 := 18) (pc' := 28) rfl (hb hby d1_18) rfl ((if0 _ _).trans (flt hc18).2.1) (by decide) (by decide) ?_
        show Steps p.tables e below (s₁.setTop (mkF m 28 #[.val (.long q0), .second, .unset, .unset] [])) _
        refine XS.lloadN X0.here hx rfl (hb hby d1_28) rfl ?_
        show Steps p.tables e below (s₁.setTop (mkF m 29 #[.val (.long q0), .second, .unset, .unset] [(.long q0)])) _
        refine X0.ldc2Long hx hown (mvT hZ (hw _ (List.mem_of_getElem? (i := 6) rfl))) (g := (mkF m 29 #[.val (.long q0), .second, .unset, .unset] [(.long q0)])) rfl (hb hby d1_29) _ ?_
        show Steps p.tables e below (s₁.setTop (mkF m 32 #[.val (.long q0), .second, .unset, .unset] [(.long (1000000 : Int64)), (.long q0)])) _
        refine XS.ldiv X0.here hx rfl (hb hby d1_32) rfl (by decide) ?_
        show Steps p.tables e below (s₁.setTop (mkF m 33 #[.val (.long q0), .second, .unset, .unset] [(.long (q0 / (1000000 : Int64)))])) _
        refine XS.lstoreN X0.here hx rfl (hb hby d1_33) rfl (l' := #[.val (.long q0), .second, .val (.long (q0 / (1000000 : Int64))), .second]) rfl ?_
        show Steps p.tables e below (s₁.setTop (mkF m 34 #[.val (.long q0), .second, .val (.long (q0 / (1000000 : Int64))), .second] [])) _
        refine XS.lloadN X0.here hx rfl (hb hby d1_34) rfl ?_
        exact kt
      obtain ⟨fs, hr, hrun, hended, hW, hsame⟩ := X0.leave (v := some (.long (q0 / (1000000 : Int64)))) (fun h => by rw [Bd.returns] at h; cases h)
      refine ⟨_, _, pre5 _ ?_, hrun, hended, _, _, rfl, ?_, ⟨_, rfl⟩, hW, hsame.mono (by decide) (by decide)⟩
      · show Steps p.tables e below (s₁.setTop (mkF m 35 #[.val (.long q0), .second, .val (.long (q0 / (1000000 : Int64))), .second] [(.long (q0 / (1000000 : Int64)))])) _
        jvm_step X0.here [X0.here.top, hx, (hb hby d1_35), X0.method', Bd.returns, narrow]
        first | (intro acts; rw [hr _ acts rfl rfl rfl]) | rw [hr _ _ rfl rfl rfl]
        exact Steps.refl _
      · show Q1 Z q0 h0 n0 _ s₁.heap _
        rw [e0]
        exact ⟨congrArg (fun z => some (Value.long z)) ((if_neg hc5).trans ((if_neg hc18).trans rfl)).symm, N0, rfl⟩
theorem pn1 : plainName "com/example/loopsmith/loopsmith/queue/WatchedChannelsSelectMillisPinLaw" = true := by first | (simp [plainName, overriddenIn]; done) | decide +kernel
theorem pd2 : parseMethodDescriptor "(J)J" = some ⟨[.long], some .long⟩ := by decide +kernel
theorem ef_0 (m : MethodId) (x0 : Int64) (x1 : Int32) : entryFrame m #[(.long x0), (.int x1)] maxLocals = mkF m 0 #[.val (.long x0), .second, .val (.int x1), .unset, .unset, .unset, .unset, .unset, .unset, .unset] [] := by first | (simp [entryFrame, mkF, argsToLocals, Value.category, maxLocals]; done) | rfl
def Q0 (Z : State) (q0 : Int64) (p1 : Int32) (h0 : Heap) (n0 : Nat) (v : Option Value) (h : Heap) (L : List Loc) : Prop := v = some (.int 1) ∧ Fr n0 L
set_option maxRecDepth 65536 in
set_option maxHeartbeats 40000000 in
theorem rm0 (l : Launch) (Z : State) (a0 : Array Value) (hw : ∀ d ∈ tables_1, d.before a0 Z = true) (ws : List Jvm.Cond) (q0 : Int64) (p1 : Int32) (h0 : Heap) (n0 : Nat) (Z0 : n0 ≤ h0.size) :
    MetFree l x (head1 (Jvm.Cond.code x code maxLocals ret :: ws) room_1) (fun a U => a = #[(.long q0), (.int p1)] ∧ Z.Warmed39 U.vm ∧ U.heap = h0) (fun _ _ _ _ _ => True) (fun _ U o U' => ∃ v L, o = .returned v ∧ Q0 Z q0 p1 h0 n0 v U'.heap L ∧ FrameEnd U o U' L room_1.cells room_1.slots) := by
  refine MetFree.of_bodySF (plainFor_of_name pn1) hisR ?_
  intro p e s m args below meth c s₁ Bd hml0 hP hK
  obtain ⟨rfl, hZ, hh⟩ := hP
  have hx := Bd.exec
  have hby := Bd.bytes
  have hml : c.maxLocals = 10 := hml0
  have hown : s.vm.findClass "com/example/loopsmith/loopsmith/queue/WatchedChannelsSelectMillisPinLaw" = some m.cls := findClass_of_methodNamed Bd.named
  have hnm := (name_of_methodNamed Bd.named Bd.method).1
  have X0 : Stand p l e room_1 s m #[(.long q0), (.int p1)] below meth c s₁ [] 0 0 := Stand.of_body Bd
  have e0 : s₁.heap = h0 := by rw [← hh, Bd.state]; rfl
  have N0 := Fr.nil n0
  have pre0 : ∀ t, Steps p.tables e below (s₁.setTop (mkF m 0 #[.val (.long q0), .second, iv p1, .unset, .unset, .unset, .unset, .unset, .unset, .unset] [])) t → Steps p.tables e below (s₁.setTop (entryFrame m #[(.long q0), (.int p1)] maxLocals)) t := fun t k => castTop (ef_0 m q0 p1) k
  obtain ⟨n, hj9, pre9⟩ : ∃ (n : Int64), (True) ∧ ∀ t, Steps p.tables e below (s₁.setTop (mkF m 53 #[.val (.long q0), .second, iv p1, iv (p1 &&& (3 : Int32)), .val (.long n), .second, .unset, .unset, .unset, .unset] [])) t → Steps p.tables e below (s₁.setTop (entryFrame m #[(.long q0), (.int p1)] maxLocals)) t := by
    have pre1 : ∀ t, Steps p.tables e below (s₁.setTop (mkF m 5 #[.val (.long q0), .second, iv p1, iv (p1 &&& (3 : Int32)), .unset, .unset, .unset, .unset, .unset, .unset] [(.int (p1 &&& (3 : Int32)))])) t → Steps p.tables e below (s₁.setTop (entryFrame m #[(.long q0), (.int p1)] maxLocals)) t := by
      intro t kt
      refine pre0 _ ?_
      show Steps p.tables e below (s₁.setTop (mkF m 0 #[.val (.long q0), .second, iv p1, .unset, .unset, .unset, .unset, .unset, .unset, .unset] [])) _
      refine XS.iloadN X0.here hx rfl (hb hby at_0) rfl ?_
      show Steps p.tables e below (s₁.setTop (mkF m 1 #[.val (.long q0), .second, iv p1, .unset, .unset, .unset, .unset, .unset, .unset, .unset] [(.int p1)])) _
      refine XS.iconst X0.here hx rfl (hb hby at_1) ?_
      show Steps p.tables e below (s₁.setTop (mkF m 2 #[.val (.long q0), .second, iv p1, .unset, .unset, .unset, .unset, .unset, .unset, .unset] [(.int (3 : Int32)), (.int p1)])) _
      refine XS.iand X0.here hx rfl (hb hby at_2) rfl ?_
      show Steps p.tables e below (s₁.setTop (mkF m 3 #[.val (.long q0), .second, iv p1, .unset, .unset, .unset, .unset, .unset, .unset, .unset] [(.int (p1 &&& (3 : Int32)))])) _
      refine XS.istoreN X0.here hx rfl (hb hby at_3) rfl (l' := #[.val (.long q0), .second, iv p1, iv (p1 &&& (3 : Int32)), .unset, .unset, .unset, .unset, .unset, .unset]) rfl ?_
      show Steps p.tables e below (s₁.setTop (mkF m 4 #[.val (.long q0), .second, iv p1, iv (p1 &&& (3 : Int32)), .unset, .unset, .unset, .unset, .unset, .unset] [])) _
      refine XS.iloadN X0.here hx rfl (hb hby at_4) rfl ?_
      exact kt
    by_cases hc5 : (p1 &&& (3 : Int32)) = (0 : Int32)
    · have pre2 : ∀ t, Steps p.tables e below (s₁.setTop (mkF m 53 #[.val (.long q0), .second, iv p1, iv (p1 &&& (3 : Int32)), .val (.long q0), .second, .unset, .unset, .unset, .unset] [])) t → Steps p.tables e below (s₁.setTop (entryFrame m #[(.long q0), (.int p1)] maxLocals)) t := by
        intro t kt
        refine pre1 _ ?_
        show Steps p.tables e below (s₁.setTop (mkF m 5 #[.val (.long q0), .second, iv p1, iv (p1 &&& (3 : Int32)), .unset, .unset, .unset, .unset, .unset, .unset] [(.int (p1 &&& (3 : Int32)))])) _
        refine XS.ifNo X0.here hx rfl (hb hby at_5) rfl ((if0 _ _).trans (teq hc5).2) ?_
        show Steps p.tables e below (s₁.setTop (mkF m 8 #[.val (.long q0), .second, iv p1, iv (p1 &&& (3 : Int32)), .unset, .unset, .unset, .unset, .unset, .unset] [])) _
        refine XS.lloadN X0.here hx rfl (hb hby at_8) rfl ?_
        show Steps p.tables e below (s₁.setTop (mkF m 9 #[.val (.long q0), .second, iv p1, iv (p1 &&& (3 : Int32)), .unset, .unset, .unset, .unset, .unset, .unset] [(.long q0)])) _
        refine XS.lstore X0.here hx rfl (hb hby at_9) rfl (l' := #[.val (.long q0), .second, iv p1, iv (p1 &&& (3 : Int32)), .val (.long q0), .second, .unset, .unset, .unset, .unset]) rfl ?_
        show Steps p.tables e below (s₁.setTop (mkF m 11 #[.val (.long q0), .second, iv p1, iv (p1 &&& (3 : Int32)), .val (.long q0), .second, .unset, .unset, .unset, .unset] [])) _
        refine XS.goto X0.here hx rfl (pc0 := 11) (pc' := 53) rfl (hb hby at_11) (by decide) (by decide) ?_
        exact kt
      exact ⟨q0, trivial, pre2⟩
    · have pre3 : ∀ t, Steps p.tables e below (s₁.setTop (mkF m 16 #[.val (.long q0), .second, iv p1, iv (p1 &&& (3 : Int32)), .unset, .unset, .unset, .unset, .unset, .unset] [(.int (1 : Int32)), (.int (p1 &&& (3 : Int32)))])) t → Steps p.tables e below (s₁.setTop (entryFrame m #[(.long q0), (.int p1)] maxLocals)) t := by
        intro t kt
        refine pre1 _ ?_
        show Steps p.tables e below (s₁.setTop (mkF m 5 #[.val (.long q0), .second, iv p1, iv (p1 &&& (3 : Int32)), .unset, .unset, .unset, .unset, .unset, .unset] [(.int (p1 &&& (3 : Int32)))])) _
        refine XS.ifYes X0.here hx rfl (pc0 := 5) (pc' := 14) rfl (hb hby at_5) rfl ((if0 _ _).trans (feq hc5).2) (by decide) (by decide) ?_
        show Steps p.tables e below (s₁.setTop (mkF m 14 #[.val (.long q0), .second, iv p1, iv (p1 &&& (3 : Int32)), .unset, .unset, .unset, .unset, .unset, .unset] [])) _
        refine XS.iloadN X0.here hx rfl (hb hby at_14) rfl ?_
        show Steps p.tables e below (s₁.setTop (mkF m 15 #[.val (.long q0), .second, iv p1, iv (p1 &&& (3 : Int32)), .unset, .unset, .unset, .unset, .unset, .unset] [(.int (p1 &&& (3 : Int32)))])) _
        refine XS.iconst X0.here hx rfl (hb hby at_15) ?_
        exact kt
      by_cases hc16 : (p1 &&& (3 : Int32)) = (1 : Int32)
      · have pre4 : ∀ t, Steps p.tables e below (s₁.setTop (mkF m 53 #[.val (.long q0), .second, iv p1, iv (p1 &&& (3 : Int32)), .val (.long (9223372036854775807 : Int64)), .second, .unset, .unset, .unset, .unset] [])) t → Steps p.tables e below (s₁.setTop (entryFrame m #[(.long q0), (.int p1)] maxLocals)) t := by
          intro t kt
          refine pre3 _ ?_
          show Steps p.tables e below (s₁.setTop (mkF m 16 #[.val (.long q0), .second, iv p1, iv (p1 &&& (3 : Int32)), .unset, .unset, .unset, .unset, .unset, .unset] [(.int (1 : Int32)), (.int (p1 &&& (3 : Int32)))])) _
          refine XS.icmpNo X0.here hx rfl (hb hby at_16) rfl (teq hc16).2 ?_
          show Steps p.tables e below (s₁.setTop (mkF m 19 #[.val (.long q0), .second, iv p1, iv (p1 &&& (3 : Int32)), .unset, .unset, .unset, .unset, .unset, .unset] [])) _
          refine X0.ldc2Long hx hown (mvT hZ (hw _ (List.mem_of_getElem? (i := 8) rfl))) (g := (mkF m 19 #[.val (.long q0), .second, iv p1, iv (p1 &&& (3 : Int32)), .unset, .unset, .unset, .unset, .unset, .unset] [])) rfl (hb hby at_19) _ ?_
          show Steps p.tables e below (s₁.setTop (mkF m 22 #[.val (.long q0), .second, iv p1, iv (p1 &&& (3 : Int32)), .unset, .unset, .unset, .unset, .unset, .unset] [(.long (9223372036854775807 : Int64))])) _
          refine XS.lstore X0.here hx rfl (hb hby at_22) rfl (l' := #[.val (.long q0), .second, iv p1, iv (p1 &&& (3 : Int32)), .val (.long (9223372036854775807 : Int64)), .second, .unset, .unset, .unset, .unset]) rfl ?_
          show Steps p.tables e below (s₁.setTop (mkF m 24 #[.val (.long q0), .second, iv p1, iv (p1 &&& (3 : Int32)), .val (.long (9223372036854775807 : Int64)), .second, .unset, .unset, .unset, .unset] [])) _
          refine XS.goto X0.here hx rfl (pc0 := 24) (pc' := 53) rfl (hb hby at_24) (by decide) (by decide) ?_
          exact kt
        exact ⟨(9223372036854775807 : Int64), trivial, pre4⟩
      · have pre5 : ∀ t, Steps p.tables e below (s₁.setTop (mkF m 29 #[.val (.long q0), .second, iv p1, iv (p1 &&& (3 : Int32)), .unset, .unset, .unset, .unset, .unset, .unset] [(.int (2 : Int32)), (.int (p1 &&& (3 : Int32)))])) t → Steps p.tables e below (s₁.setTop (entryFrame m #[(.long q0), (.int p1)] maxLocals)) t := by
          intro t kt
          refine pre3 _ ?_
          show Steps p.tables e below (s₁.setTop (mkF m 16 #[.val (.long q0), .second, iv p1, iv (p1 &&& (3 : Int32)), .unset, .unset, .unset, .unset, .unset, .unset] [(.int (1 : Int32)), (.int (p1 &&& (3 : Int32)))])) _
          refine XS.icmpYes X0.here hx rfl (pc0 := 16) (pc' := 27) rfl (hb hby at_16) rfl (feq hc16).2 (by decide) (by decide) ?_
          show Steps p.tables e below (s₁.setTop (mkF m 27 #[.val (.long q0), .second, iv p1, iv (p1 &&& (3 : Int32)), .unset, .unset, .unset, .unset, .unset, .unset] [])) _
          refine XS.iloadN X0.here hx rfl (hb hby at_27) rfl ?_
          show Steps p.tables e below (s₁.setTop (mkF m 28 #[.val (.long q0), .second, iv p1, iv (p1 &&& (3 : Int32)), .unset, .unset, .unset, .unset, .unset, .unset] [(.int (p1 &&& (3 : Int32)))])) _
          refine XS.iconst X0.here hx rfl (hb hby at_28) ?_
          exact kt
        by_cases hc29 : (p1 &&& (3 : Int32)) = (2 : Int32)
        · have pre6 : ∀ t, Steps p.tables e below (s₁.setTop (mkF m 53 #[.val (.long q0), .second, iv p1, iv (p1 &&& (3 : Int32)), .val (.long (q0 - (q0 / (2000000 : Int64)) * (2000000 : Int64))), .second, .unset, .unset, .unset, .unset] [])) t → Steps p.tables e below (s₁.setTop (entryFrame m #[(.long q0), (.int p1)] maxLocals)) t := by
            intro t kt
            refine pre5 _ ?_
            show Steps p.tables e below (s₁.setTop (mkF m 29 #[.val (.long q0), .second, iv p1, iv (p1 &&& (3 : Int32)), .unset, .unset, .unset, .unset, .unset, .unset] [(.int (2 : Int32)), (.int (p1 &&& (3 : Int32)))])) _
            refine XS.icmpNo X0.here hx rfl (hb hby at_29) rfl (teq hc29).2 ?_
            show Steps p.tables e below (s₁.setTop (mkF m 32 #[.val (.long q0), .second, iv p1, iv (p1 &&& (3 : Int32)), .unset, .unset, .unset, .unset, .unset, .unset] [])) _
            refine XS.lloadN X0.here hx rfl (hb hby at_32) rfl ?_
            show Steps p.tables e below (s₁.setTop (mkF m 33 #[.val (.long q0), .second, iv p1, iv (p1 &&& (3 : Int32)), .unset, .unset, .unset, .unset, .unset, .unset] [(.long q0)])) _
            refine X0.ldc2Long hx hown (mvT hZ (hw _ (List.mem_of_getElem? (i := 0) rfl))) (g := (mkF m 33 #[.val (.long q0), .second, iv p1, iv (p1 &&& (3 : Int32)), .unset, .unset, .unset, .unset, .unset, .unset] [(.long q0)])) rfl (hb hby at_33) _ ?_
            show Steps p.tables e below (s₁.setTop (mkF m 36 #[.val (.long q0), .second, iv p1, iv (p1 &&& (3 : Int32)), .unset, .unset, .unset, .unset, .unset, .unset] [(.long (2000000 : Int64)), (.long q0)])) _
            refine XS.lrem X0.here hx rfl (hb hby at_36) rfl (by decide) ?_
            show Steps p.tables e below (s₁.setTop (mkF m 37 #[.val (.long q0), .second, iv p1, iv (p1 &&& (3 : Int32)), .unset, .unset, .unset, .unset, .unset, .unset] [(.long (q0 - (q0 / (2000000 : Int64)) * (2000000 : Int64)))])) _
            refine XS.lstore X0.here hx rfl (hb hby at_37) rfl (l' := #[.val (.long q0), .second, iv p1, iv (p1 &&& (3 : Int32)), .val (.long (q0 - (q0 / (2000000 : Int64)) * (2000000 : Int64))), .second, .unset, .unset, .unset, .unset]) rfl ?_
            show Steps p.tables e below (s₁.setTop (mkF m 39 #[.val (.long q0), .second, iv p1, iv (p1 &&& (3 : Int32)), .val (.long (q0 - (q0 / (2000000 : Int64)) * (2000000 : Int64))), .second, .unset, .unset, .unset, .unset] [])) _
            refine XS.goto X0.here hx rfl (pc0 := 39) (pc' := 53) rfl (hb hby at_39) (by decide) (by decide) ?_
            exact kt
          exact ⟨(q0 - (q0 / (2000000 : Int64)) * (2000000 : Int64)), trivial, pre6⟩
        · have pre7 : ∀ t, Steps p.tables e below (s₁.setTop (mkF m 53 #[.val (.long q0), .second, iv p1, iv (p1 &&& (3 : Int32)), .val (.long ((9223372036854775807 : Int64) - (q0 &&& (1048575 : Int64)))), .second, .unset, .unset, .unset, .unset] [])) t → Steps p.tables e below (s₁.setTop (entryFrame m #[(.long q0), (.int p1)] maxLocals)) t := by
            intro t kt
            refine pre5 _ ?_
            show Steps p.tables e below (s₁.setTop (mkF m 29 #[.val (.long q0), .second, iv p1, iv (p1 &&& (3 : Int32)), .unset, .unset, .unset, .unset, .unset, .unset] [(.int (2 : Int32)), (.int (p1 &&& (3 : Int32)))])) _
            refine XS.icmpYes X0.here hx rfl (pc0 := 29) (pc' := 42) rfl (hb hby at_29) rfl (feq hc29).2 (by decide) (by decide) ?_
            show Steps p.tables e below (s₁.setTop (mkF m 42 #[.val (.long q0), .second, iv p1, iv (p1 &&& (3 : Int32)), .unset, .unset, .unset, .unset, .unset, .unset] [])) _
            refine X0.ldc2Long hx hown (mvT hZ (hw _ (List.mem_of_getElem? (i := 8) rfl))) (g := (mkF m 42 #[.val (.long q0), .second, iv p1, iv (p1 &&& (3 : Int32)), .unset, .unset, .unset, .unset, .unset, .unset] [])) rfl (hb hby at_42) _ ?_
            show Steps p.tables e below (s₁.setTop (mkF m 45 #[.val (.long q0), .second, iv p1, iv (p1 &&& (3 : Int32)), .unset, .unset, .unset, .unset, .unset, .unset] [(.long (9223372036854775807 : Int64))])) _
            refine XS.lloadN X0.here hx rfl (hb hby at_45) rfl ?_
            show Steps p.tables e below (s₁.setTop (mkF m 46 #[.val (.long q0), .second, iv p1, iv (p1 &&& (3 : Int32)), .unset, .unset, .unset, .unset, .unset, .unset] [(.long q0), (.long (9223372036854775807 : Int64))])) _
            refine X0.ldc2Long hx hown (mvT hZ (hw _ (List.mem_of_getElem? (i := 11) rfl))) (g := (mkF m 46 #[.val (.long q0), .second, iv p1, iv (p1 &&& (3 : Int32)), .unset, .unset, .unset, .unset, .unset, .unset] [(.long q0), (.long (9223372036854775807 : Int64))])) rfl (hb hby at_46) _ ?_
            show Steps p.tables e below (s₁.setTop (mkF m 49 #[.val (.long q0), .second, iv p1, iv (p1 &&& (3 : Int32)), .unset, .unset, .unset, .unset, .unset, .unset] [(.long (1048575 : Int64)), (.long q0), (.long (9223372036854775807 : Int64))])) _
            refine XS.land X0.here hx rfl (hb hby at_49) rfl ?_
            show Steps p.tables e below (s₁.setTop (mkF m 50 #[.val (.long q0), .second, iv p1, iv (p1 &&& (3 : Int32)), .unset, .unset, .unset, .unset, .unset, .unset] [(.long (q0 &&& (1048575 : Int64))), (.long (9223372036854775807 : Int64))])) _
            refine XS.lsub X0.here hx rfl (hb hby at_50) rfl ?_
            show Steps p.tables e below (s₁.setTop (mkF m 51 #[.val (.long q0), .second, iv p1, iv (p1 &&& (3 : Int32)), .unset, .unset, .unset, .unset, .unset, .unset] [(.long ((9223372036854775807 : Int64) - (q0 &&& (1048575 : Int64))))])) _
            refine XS.lstore X0.here hx rfl (hb hby at_51) rfl (l' := #[.val (.long q0), .second, iv p1, iv (p1 &&& (3 : Int32)), .val (.long ((9223372036854775807 : Int64) - (q0 &&& (1048575 : Int64)))), .second, .unset, .unset, .unset, .unset]) rfl ?_
            exact kt
          exact ⟨((9223372036854775807 : Int64) - (q0 &&& (1048575 : Int64))), trivial, pre7⟩
  have pre10 : ∀ t, Steps p.tables e below (s₁.setTop (mkF m 55 #[.val (.long q0), .second, iv p1, iv (p1 &&& (3 : Int32)), .val (.long n), .second, .unset, .unset, .unset, .unset] [(.long n)])) t → Steps p.tables e below (s₁.setTop (entryFrame m #[(.long q0), (.int p1)] maxLocals)) t := by
    intro t kt
    refine pre9 _ ?_
    show Steps p.tables e below (s₁.setTop (mkF m 53 #[.val (.long q0), .second, iv p1, iv (p1 &&& (3 : Int32)), .val (.long n), .second, .unset, .unset, .unset, .unset] [])) _
    refine XS.lload X0.here hx rfl (hb hby at_53) rfl ?_
    exact kt
  obtain ⟨_, _, ⟨T11, L11, k11, n11⟩, -, X11, ⟨Lc11, hQ11, l11, y11, z11⟩, st11⟩ := Jvm.LawKit.callS X0 hx (y := (⟨"com/example/loopsmith/loopsmith/queue/WatchedChannels", "selectMillis", "(J)J"⟩ : MethodName)) hown (mvT hZ (hw _ (List.mem_of_getElem? (i := 1) rfl))) (mvT hZ (hw _ (List.mem_of_getElem? (i := 2) rfl))) (mvT hZ (hw _ (List.mem_of_getElem? (i := 3) rfl))) (mvT hZ (hw _ (List.mem_of_getElem? (i := 4) rfl))) (by decide) (backOf (W := 0) (rm1 l Z a0 hw [] n h0 n0 (Nat.le_trans Z0 (Keep.refl h0 []).1)) hZ (hw _ (List.mem_of_getElem? (i := 4) rfl)) (hw _ (List.mem_of_getElem? (i := 3) rfl)) (by decide) (by decide)) (g := (mkF m 55 #[.val (.long q0), .second, iv p1, iv (p1 &&& (3 : Int32)), .val (.long n), .second, .unset, .unset, .unset, .unset] [(.long n)])) rfl (by rw [hml]; rfl) (argsL := [(.long n)]) (rest := []) (lenOf pd2 rfl) rfl (by show 2 * 0 + _ ≤ _; exact Nat.le_of_eq rfl) (hb hby at_55) (fun _ _ => ⟨rfl, e0, (by decide : 0 + 0 ≤ _), (by decide : 0 + 0 ≤ _)⟩)
  dsimp only [Pt.U, Pt.locs, Pt.cells, Pt.slots] at X11 l11 y11 z11 st11 hQ11
  subst l11 y11 z11
  obtain ⟨rfl, N11q, hh11⟩ := hQ11
  have N11 := Fr.app N0 N11q
  obtain ⟨r, h_r⟩ : ∃ z : Int64, z = (own_sel n) := ⟨_, rfl⟩
  have pre12 : ∀ t, Steps p.tables e below (T11.setTop (mkF m 66 #[.val (.long q0), .second, iv p1, iv (p1 &&& (3 : Int32)), .val (.long n), .second, .val (.long r), .second, .unset, .unset] [(.int (lcmpW n (9223372036854775807 : Int64)))])) t → Steps p.tables e below (s₁.setTop (entryFrame m #[(.long q0), (.int p1)] maxLocals)) t := by
    intro t kt
    refine pre10 _ ?_
    show Steps p.tables e below (s₁.setTop (mkF m 55 #[.val (.long q0), .second, iv p1, iv (p1 &&& (3 : Int32)), .val (.long n), .second, .unset, .unset, .unset, .unset] [(.long n)])) _
    refine st11 _ ?_
    show Steps p.tables e below (T11.setTop (mkF m 58 #[.val (.long q0), .second, iv p1, iv (p1 &&& (3 : Int32)), .val (.long n), .second, .unset, .unset, .unset, .unset] [(.long (own_sel n))])) _
    refine XS.lstore X11.here hx rfl (hb hby at_58) rfl (l' := #[.val (.long q0), .second, iv p1, iv (p1 &&& (3 : Int32)), .val (.long n), .second, .val (.long (own_sel n)), .second, .unset, .unset]) rfl ?_
    show Steps p.tables e below (T11.setTop (mkF m 60 #[.val (.long q0), .second, iv p1, iv (p1 &&& (3 : Int32)), .val (.long n), .second, .val (.long (own_sel n)), .second, .unset, .unset] [])) _
    rw [← h_r]
    show Steps p.tables e below (T11.setTop (mkF m 60 #[.val (.long q0), .second, iv p1, iv (p1 &&& (3 : Int32)), .val (.long n), .second, .val (.long r), .second, .unset, .unset] [])) _
    refine XS.lload X11.here hx rfl (hb hby at_60) rfl ?_
    show Steps p.tables e below (T11.setTop (mkF m 62 #[.val (.long q0), .second, iv p1, iv (p1 &&& (3 : Int32)), .val (.long n), .second, .val (.long r), .second, .unset, .unset] [(.long n)])) _
    refine X11.ldc2Long hx hown (mvT hZ (hw _ (List.mem_of_getElem? (i := 8) rfl))) (g := (mkF m 62 #[.val (.long q0), .second, iv p1, iv (p1 &&& (3 : Int32)), .val (.long n), .second, .val (.long r), .second, .unset, .unset] [(.long n)])) rfl (hb hby at_62) _ ?_
    show Steps p.tables e below (T11.setTop (mkF m 65 #[.val (.long q0), .second, iv p1, iv (p1 &&& (3 : Int32)), .val (.long n), .second, .val (.long r), .second, .unset, .unset] [(.long (9223372036854775807 : Int64)), (.long n)])) _
    refine XS.lcmp X11.here hx rfl (hb hby at_65) rfl ?_
    exact kt
  by_cases hc66 : (lcmpW n (9223372036854775807 : Int64)) = (0 : Int32)
  · have pre13 : ∀ t, Steps p.tables e below (T11.setTop (mkF m 73 #[.val (.long q0), .second, iv p1, iv (p1 &&& (3 : Int32)), .val (.long n), .second, .val (.long r), .second, .unset, .unset] [(.int (lcmpW r (0 : Int64)))])) t → Steps p.tables e below (s₁.setTop (entryFrame m #[(.long q0), (.int p1)] maxLocals)) t := by
      intro t kt
      refine pre12 _ ?_
      show Steps p.tables e below (T11.setTop (mkF m 66 #[.val (.long q0), .second, iv p1, iv (p1 &&& (3 : Int32)), .val (.long n), .second, .val (.long r), .second, .unset, .unset] [(.int (lcmpW n (9223372036854775807 : Int64)))])) _
      refine XS.ifNo X11.here hx rfl (hb hby at_66) rfl ((if0 _ _).trans (teq hc66).2) ?_
      show Steps p.tables e below (T11.setTop (mkF m 69 #[.val (.long q0), .second, iv p1, iv (p1 &&& (3 : Int32)), .val (.long n), .second, .val (.long r), .second, .unset, .unset] [])) _
      refine XS.lload X11.here hx rfl (hb hby at_69) rfl ?_
      show Steps p.tables e below (T11.setTop (mkF m 71 #[.val (.long q0), .second, iv p1, iv (p1 &&& (3 : Int32)), .val (.long n), .second, .val (.long r), .second, .unset, .unset] [(.long r)])) _
      refine XS.lconst X11.here hx rfl (hb hby at_71) ?_
      show Steps p.tables e below (T11.setTop (mkF m 72 #[.val (.long q0), .second, iv p1, iv (p1 &&& (3 : Int32)), .val (.long n), .second, .val (.long r), .second, .unset, .unset] [(.long (0 : Int64)), (.long r)])) _
      refine XS.lcmp X11.here hx rfl (hb hby at_72) rfl ?_
      exact kt
    by_cases hc73 : (lcmpW r (0 : Int64)) = (0 : Int32)
    · have pre14 : ∀ t, Steps p.tables e below (T11.setTop (mkF m 81 #[.val (.long q0), .second, iv p1, iv (p1 &&& (3 : Int32)), .val (.long n), .second, .val (.long r), .second, .unset, .unset] [(.int (1 : Int32))])) t → Steps p.tables e below (s₁.setTop (entryFrame m #[(.long q0), (.int p1)] maxLocals)) t := by
        intro t kt
        refine pre13 _ ?_
        show Steps p.tables e below (T11.setTop (mkF m 73 #[.val (.long q0), .second, iv p1, iv (p1 &&& (3 : Int32)), .val (.long n), .second, .val (.long r), .second, .unset, .unset] [(.int (lcmpW r (0 : Int64)))])) _
        refine XS.ifNo X11.here hx rfl (hb hby at_73) rfl ((if0 _ _).trans (teq hc73).2) ?_
        show Steps p.tables e below (T11.setTop (mkF m 76 #[.val (.long q0), .second, iv p1, iv (p1 &&& (3 : Int32)), .val (.long n), .second, .val (.long r), .second, .unset, .unset] [])) _
        refine XS.iconst X11.here hx rfl (hb hby at_76) ?_
        show Steps p.tables e below (T11.setTop (mkF m 77 #[.val (.long q0), .second, iv p1, iv (p1 &&& (3 : Int32)), .val (.long n), .second, .val (.long r), .second, .unset, .unset] [(.int (1 : Int32))])) _
        refine XS.goto X11.here hx rfl (pc0 := 77) (pc' := 81) rfl (hb hby at_77) (by decide) (by decide) ?_
        exact kt
      obtain ⟨fs, hr, hrun, hended, hW, hsame⟩ := X11.leave (v := some (.int (1 : Int32))) (fun h => by rw [Bd.returns] at h; cases h)
      refine ⟨_, _, pre14 _ ?_, hrun, hended, _, _, rfl, ?_, ⟨_, rfl⟩, hW, hsame.mono (by decide) (by decide)⟩
      · show Steps p.tables e below (T11.setTop (mkF m 81 #[.val (.long q0), .second, iv p1, iv (p1 &&& (3 : Int32)), .val (.long n), .second, .val (.long r), .second, .unset, .unset] [(.int (1 : Int32))])) _
        exact retN X11 hx (t := .boolean) Bd.returns (by simp) (hb hby at_81) hr
      · show Q0 Z q0 p1 h0 n0 _ T11.heap _
        rw [hh11]
        exact ⟨rfl, N11⟩
    · have pre15 : ∀ t, Steps p.tables e below (T11.setTop (mkF m 81 #[.val (.long q0), .second, iv p1, iv (p1 &&& (3 : Int32)), .val (.long n), .second, .val (.long r), .second, .unset, .unset] [(.int (0 : Int32))])) t → Steps p.tables e below (s₁.setTop (entryFrame m #[(.long q0), (.int p1)] maxLocals)) t := by
        intro t kt
        refine pre13 _ ?_
        show Steps p.tables e below (T11.setTop (mkF m 73 #[.val (.long q0), .second, iv p1, iv (p1 &&& (3 : Int32)), .val (.long n), .second, .val (.long r), .second, .unset, .unset] [(.int (lcmpW r (0 : Int64)))])) _
        refine XS.ifYes X11.here hx rfl (pc0 := 73) (pc' := 80) rfl (hb hby at_73) rfl ((if0 _ _).trans (feq hc73).2) (by decide) (by decide) ?_
        show Steps p.tables e below (T11.setTop (mkF m 80 #[.val (.long q0), .second, iv p1, iv (p1 &&& (3 : Int32)), .val (.long n), .second, .val (.long r), .second, .unset, .unset] [])) _
        refine XS.iconst X11.here hx rfl (hb hby at_80) ?_
        exact kt
      exfalso
      exact hc73 ((own_law n r h_r).1 hc66)
  · have pre16 : ∀ t, Steps p.tables e below (T11.setTop (mkF m 88 #[.val (.long q0), .second, iv p1, iv (p1 &&& (3 : Int32)), .val (.long n), .second, .val (.long r), .second, .unset, .unset] [(.int (lcmpW n (1000000 : Int64)))])) t → Steps p.tables e below (s₁.setTop (entryFrame m #[(.long q0), (.int p1)] maxLocals)) t := by
      intro t kt
      refine pre12 _ ?_
      show Steps p.tables e below (T11.setTop (mkF m 66 #[.val (.long q0), .second, iv p1, iv (p1 &&& (3 : Int32)), .val (.long n), .second, .val (.long r), .second, .unset, .unset] [(.int (lcmpW n (9223372036854775807 : Int64)))])) _
      refine XS.ifYes X11.here hx rfl (pc0 := 66) (pc' := 82) rfl (hb hby at_66) rfl ((if0 _ _).trans (feq hc66).2) (by decide) (by decide) ?_
      show Steps p.tables e below (T11.setTop (mkF m 82 #[.val (.long q0), .second, iv p1, iv (p1 &&& (3 : Int32)), .val (.long n), .second, .val (.long r), .second, .unset, .unset] [])) _
      refine XS.lload X11.here hx rfl (hb hby at_82) rfl ?_
      show Steps p.tables e below (T11.setTop (mkF m 84 #[.val (.long q0), .second, iv p1, iv (p1 &&& (3 : Int32)), .val (.long n), .second, .val (.long r), .second, .unset, .unset] [(.long n)])) _
      refine X11.ldc2Long hx hown (mvT hZ (hw _ (List.mem_of_getElem? (i := 9) rfl))) (g := (mkF m 84 #[.val (.long q0), .second, iv p1, iv (p1 &&& (3 : Int32)), .val (.long n), .second, .val (.long r), .second, .unset, .unset] [(.long n)])) rfl (hb hby at_84) _ ?_
      show Steps p.tables e below (T11.setTop (mkF m 87 #[.val (.long q0), .second, iv p1, iv (p1 &&& (3 : Int32)), .val (.long n), .second, .val (.long r), .second, .unset, .unset] [(.long (1000000 : Int64)), (.long n)])) _
      refine XS.lcmp X11.here hx rfl (hb hby at_87) rfl ?_
      exact kt
    by_cases hc88 : (lcmpW n (1000000 : Int64)) < (0 : Int32)
    · have pre17 : ∀ t, Steps p.tables e below (T11.setTop (mkF m 97 #[.val (.long q0), .second, iv p1, iv (p1 &&& (3 : Int32)), .val (.long n), .second, .val (.long r), .second, .unset, .unset] [(.int (lcmpW r (-1 : Int64)))])) t → Steps p.tables e below (s₁.setTop (entryFrame m #[(.long q0), (.int p1)] maxLocals)) t := by
        intro t kt
        refine pre16 _ ?_
        show Steps p.tables e below (T11.setTop (mkF m 88 #[.val (.long q0), .second, iv p1, iv (p1 &&& (3 : Int32)), .val (.long n), .second, .val (.long r), .second, .unset, .unset] [(.int (lcmpW n (1000000 : Int64)))])) _
        refine XS.ifNo X11.here hx rfl (hb hby at_88) rfl ((if0 _ _).trans (tlt hc88).2.1) ?_
        show Steps p.tables e below (T11.setTop (mkF m 91 #[.val (.long q0), .second, iv p1, iv (p1 &&& (3 : Int32)), .val (.long n), .second, .val (.long r), .second, .unset, .unset] [])) _
        refine XS.lload X11.here hx rfl (hb hby at_91) rfl ?_
        show Steps p.tables e below (T11.setTop (mkF m 93 #[.val (.long q0), .second, iv p1, iv (p1 &&& (3 : Int32)), .val (.long n), .second, .val (.long r), .second, .unset, .unset] [(.long r)])) _
        refine X11.ldc2Long hx hown (mvT hZ (hw _ (List.mem_of_getElem? (i := 10) rfl))) (g := (mkF m 93 #[.val (.long q0), .second, iv p1, iv (p1 &&& (3 : Int32)), .val (.long n), .second, .val (.long r), .second, .unset, .unset] [(.long r)])) rfl (hb hby at_93) _ ?_
        show Steps p.tables e below (T11.setTop (mkF m 96 #[.val (.long q0), .second, iv p1, iv (p1 &&& (3 : Int32)), .val (.long n), .second, .val (.long r), .second, .unset, .unset] [(.long (-1 : Int64)), (.long r)])) _
        refine XS.lcmp X11.here hx rfl (hb hby at_96) rfl ?_
        exact kt
      by_cases hc97 : (lcmpW r (-1 : Int64)) = (0 : Int32)
      · have pre18 : ∀ t, Steps p.tables e below (T11.setTop (mkF m 105 #[.val (.long q0), .second, iv p1, iv (p1 &&& (3 : Int32)), .val (.long n), .second, .val (.long r), .second, .unset, .unset] [(.int (1 : Int32))])) t → Steps p.tables e below (s₁.setTop (entryFrame m #[(.long q0), (.int p1)] maxLocals)) t := by
          intro t kt
          refine pre17 _ ?_
          show Steps p.tables e below (T11.setTop (mkF m 97 #[.val (.long q0), .second, iv p1, iv (p1 &&& (3 : Int32)), .val (.long n), .second, .val (.long r), .second, .unset, .unset] [(.int (lcmpW r (-1 : Int64)))])) _
          refine XS.ifNo X11.here hx rfl (hb hby at_97) rfl ((if0 _ _).trans (teq hc97).2) ?_
          show Steps p.tables e below (T11.setTop (mkF m 100 #[.val (.long q0), .second, iv p1, iv (p1 &&& (3 : Int32)), .val (.long n), .second, .val (.long r), .second, .unset, .unset] [])) _
          refine XS.iconst X11.here hx rfl (hb hby at_100) ?_
          show Steps p.tables e below (T11.setTop (mkF m 101 #[.val (.long q0), .second, iv p1, iv (p1 &&& (3 : Int32)), .val (.long n), .second, .val (.long r), .second, .unset, .unset] [(.int (1 : Int32))])) _
          refine XS.goto X11.here hx rfl (pc0 := 101) (pc' := 105) rfl (hb hby at_101) (by decide) (by decide) ?_
          exact kt
        obtain ⟨fs, hr, hrun, hended, hW, hsame⟩ := X11.leave (v := some (.int (1 : Int32))) (fun h => by rw [Bd.returns] at h; cases h)
        refine ⟨_, _, pre18 _ ?_, hrun, hended, _, _, rfl, ?_, ⟨_, rfl⟩, hW, hsame.mono (by decide) (by decide)⟩
        · show Steps p.tables e below (T11.setTop (mkF m 105 #[.val (.long q0), .second, iv p1, iv (p1 &&& (3 : Int32)), .val (.long n), .second, .val (.long r), .second, .unset, .unset] [(.int (1 : Int32))])) _
          exact retN X11 hx (t := .boolean) Bd.returns (by simp) (hb hby at_105) hr
        · show Q0 Z q0 p1 h0 n0 _ T11.heap _
          rw [hh11]
          exact ⟨rfl, N11⟩
      · have pre19 : ∀ t, Steps p.tables e below (T11.setTop (mkF m 105 #[.val (.long q0), .second, iv p1, iv (p1 &&& (3 : Int32)), .val (.long n), .second, .val (.long r), .second, .unset, .unset] [(.int (0 : Int32))])) t → Steps p.tables e below (s₁.setTop (entryFrame m #[(.long q0), (.int p1)] maxLocals)) t := by
          intro t kt
          refine pre17 _ ?_
          show Steps p.tables e below (T11.setTop (mkF m 97 #[.val (.long q0), .second, iv p1, iv (p1 &&& (3 : Int32)), .val (.long n), .second, .val (.long r), .second, .unset, .unset] [(.int (lcmpW r (-1 : Int64)))])) _
          refine XS.ifYes X11.here hx rfl (pc0 := 97) (pc' := 104) rfl (hb hby at_97) rfl ((if0 _ _).trans (feq hc97).2) (by decide) (by decide) ?_
          show Steps p.tables e below (T11.setTop (mkF m 104 #[.val (.long q0), .second, iv p1, iv (p1 &&& (3 : Int32)), .val (.long n), .second, .val (.long r), .second, .unset, .unset] [])) _
          refine XS.iconst X11.here hx rfl (hb hby at_104) ?_
          exact kt
        exfalso
        exact hc97 ((own_law n r h_r).2.1 hc66 hc88)
    · have pre20 : ∀ t, Steps p.tables e below (T11.setTop (mkF m 110 #[.val (.long q0), .second, iv p1, iv (p1 &&& (3 : Int32)), .val (.long n), .second, .val (.long r), .second, .unset, .unset] [(.int (lcmpW r (1 : Int64)))])) t → Steps p.tables e below (s₁.setTop (entryFrame m #[(.long q0), (.int p1)] maxLocals)) t := by
        intro t kt
        refine pre16 _ ?_
        show Steps p.tables e below (T11.setTop (mkF m 88 #[.val (.long q0), .second, iv p1, iv (p1 &&& (3 : Int32)), .val (.long n), .second, .val (.long r), .second, .unset, .unset] [(.int (lcmpW n (1000000 : Int64)))])) _
        refine XS.ifYes X11.here hx rfl (pc0 := 88) (pc' := 106) rfl (hb hby at_88) rfl ((if0 _ _).trans (flt hc88).2.1) (by decide) (by decide) ?_
        show Steps p.tables e below (T11.setTop (mkF m 106 #[.val (.long q0), .second, iv p1, iv (p1 &&& (3 : Int32)), .val (.long n), .second, .val (.long r), .second, .unset, .unset] [])) _
        refine XS.lload X11.here hx rfl (hb hby at_106) rfl ?_
        show Steps p.tables e below (T11.setTop (mkF m 108 #[.val (.long q0), .second, iv p1, iv (p1 &&& (3 : Int32)), .val (.long n), .second, .val (.long r), .second, .unset, .unset] [(.long r)])) _
        refine XS.lconst X11.here hx rfl (hb hby at_108) ?_
        show Steps p.tables e below (T11.setTop (mkF m 109 #[.val (.long q0), .second, iv p1, iv (p1 &&& (3 : Int32)), .val (.long n), .second, .val (.long r), .second, .unset, .unset] [(.long (1 : Int64)), (.long r)])) _
        refine XS.lcmp X11.here hx rfl (hb hby at_109) rfl ?_
        exact kt
      by_cases hc110 : (lcmpW r (1 : Int64)) < (0 : Int32)
      · have pre21 : ∀ t, Steps p.tables e below (T11.setTop (mkF m 123 #[.val (.long q0), .second, iv p1, iv (p1 &&& (3 : Int32)), .val (.long n), .second, .val (.long r), .second, .unset, .unset] [(.int (0 : Int32))])) t → Steps p.tables e below (s₁.setTop (entryFrame m #[(.long q0), (.int p1)] maxLocals)) t := by
          intro t kt
          refine pre20 _ ?_
          show Steps p.tables e below (T11.setTop (mkF m 110 #[.val (.long q0), .second, iv p1, iv (p1 &&& (3 : Int32)), .val (.long n), .second, .val (.long r), .second, .unset, .unset] [(.int (lcmpW r (1 : Int64)))])) _
          refine XS.ifYes X11.here hx rfl (pc0 := 110) (pc' := 122) rfl (hb hby at_110) rfl ((if0 _ _).trans (tlt hc110).1) (by decide) (by decide) ?_
          show Steps p.tables e below (T11.setTop (mkF m 122 #[.val (.long q0), .second, iv p1, iv (p1 &&& (3 : Int32)), .val (.long n), .second, .val (.long r), .second, .unset, .unset] [])) _
          refine XS.iconst X11.here hx rfl (hb hby at_122) ?_
          exact kt
        exfalso
        exact ((own_law n r h_r).2.2 hc66 hc88).1 hc110
      · have pre22 : ∀ t, Steps p.tables e below (T11.setTop (mkF m 119 #[.val (.long q0), .second, iv p1, iv (p1 &&& (3 : Int32)), .val (.long n), .second, .val (.long r), .second, .unset, .unset] [(.int (lcmpW r (9223372036854 : Int64)))])) t → Steps p.tables e below (s₁.setTop (entryFrame m #[(.long q0), (.int p1)] maxLocals)) t := by
          intro t kt
          refine pre20 _ ?_
          show Steps p.tables e below (T11.setTop (mkF m 110 #[.val (.long q0), .second, iv p1, iv (p1 &&& (3 : Int32)), .val (.long n), .second, .val (.long r), .second, .unset, .unset] [(.int (lcmpW r (1 : Int64)))])) _
          refine XS.ifNo X11.here hx rfl (hb hby at_110) rfl ((if0 _ _).trans (flt hc110).1) ?_
          show Steps p.tables e below (T11.setTop (mkF m 113 #[.val (.long q0), .second, iv p1, iv (p1 &&& (3 : Int32)), .val (.long n), .second, .val (.long r), .second, .unset, .unset] [])) _
          refine XS.lload X11.here hx rfl (hb hby at_113) rfl ?_
          show Steps p.tables e below (T11.setTop (mkF m 115 #[.val (.long q0), .second, iv p1, iv (p1 &&& (3 : Int32)), .val (.long n), .second, .val (.long r), .second, .unset, .unset] [(.long r)])) _
          refine X11.ldc2Long hx hown (mvT hZ (hw _ (List.mem_of_getElem? (i := 12) rfl))) (g := (mkF m 115 #[.val (.long q0), .second, iv p1, iv (p1 &&& (3 : Int32)), .val (.long n), .second, .val (.long r), .second, .unset, .unset] [(.long r)])) rfl (hb hby at_115) _ ?_
          show Steps p.tables e below (T11.setTop (mkF m 118 #[.val (.long q0), .second, iv p1, iv (p1 &&& (3 : Int32)), .val (.long n), .second, .val (.long r), .second, .unset, .unset] [(.long (9223372036854 : Int64)), (.long r)])) _
          refine XS.lcmp X11.here hx rfl (hb hby at_118) rfl ?_
          exact kt
        by_cases hc119 : (0 : Int32) < (lcmpW r (9223372036854 : Int64))
        · have pre23 : ∀ t, Steps p.tables e below (T11.setTop (mkF m 123 #[.val (.long q0), .second, iv p1, iv (p1 &&& (3 : Int32)), .val (.long n), .second, .val (.long r), .second, .unset, .unset] [(.int (0 : Int32))])) t → Steps p.tables e below (s₁.setTop (entryFrame m #[(.long q0), (.int p1)] maxLocals)) t := by
            intro t kt
            refine pre22 _ ?_
            show Steps p.tables e below (T11.setTop (mkF m 119 #[.val (.long q0), .second, iv p1, iv (p1 &&& (3 : Int32)), .val (.long n), .second, .val (.long r), .second, .unset, .unset] [(.int (lcmpW r (9223372036854 : Int64)))])) _
            refine XS.ifNo X11.here hx rfl (hb hby at_119) rfl ((if0 _ _).trans (tlt hc119).2.2.2) ?_
            show Steps p.tables e below (T11.setTop (mkF m 122 #[.val (.long q0), .second, iv p1, iv (p1 &&& (3 : Int32)), .val (.long n), .second, .val (.long r), .second, .unset, .unset] [])) _
            refine XS.iconst X11.here hx rfl (hb hby at_122) ?_
            exact kt
          exfalso
          exact ((own_law n r h_r).2.2 hc66 hc88).2.1 hc119
        · have pre24 : ∀ t, Steps p.tables e below (T11.setTop (mkF m 139 #[.val (.long q0), .second, iv p1, iv (p1 &&& (3 : Int32)), .val (.long n), .second, .val (.long r), .second, .val (.long (n - (r * (1000000 : Int64)))), .second] [(.int (lcmpW (n - (r * (1000000 : Int64))) (0 : Int64)))])) t → Steps p.tables e below (s₁.setTop (entryFrame m #[(.long q0), (.int p1)] maxLocals)) t := by
            intro t kt
            refine pre22 _ ?_
            show Steps p.tables e below (T11.setTop (mkF m 119 #[.val (.long q0), .second, iv p1, iv (p1 &&& (3 : Int32)), .val (.long n), .second, .val (.long r), .second, .unset, .unset] [(.int (lcmpW r (9223372036854 : Int64)))])) _
            refine XS.ifYes X11.here hx rfl (pc0 := 119) (pc' := 124) rfl (hb hby at_119) rfl ((if0 _ _).trans (flt hc119).2.2.2) (by decide) (by decide) ?_
            show Steps p.tables e below (T11.setTop (mkF m 124 #[.val (.long q0), .second, iv p1, iv (p1 &&& (3 : Int32)), .val (.long n), .second, .val (.long r), .second, .unset, .unset] [])) _
            refine XS.lload X11.here hx rfl (hb hby at_124) rfl ?_
            show Steps p.tables e below (T11.setTop (mkF m 126 #[.val (.long q0), .second, iv p1, iv (p1 &&& (3 : Int32)), .val (.long n), .second, .val (.long r), .second, .unset, .unset] [(.long n)])) _
            refine XS.lload X11.here hx rfl (hb hby at_126) rfl ?_
            show Steps p.tables e below (T11.setTop (mkF m 128 #[.val (.long q0), .second, iv p1, iv (p1 &&& (3 : Int32)), .val (.long n), .second, .val (.long r), .second, .unset, .unset] [(.long r), (.long n)])) _
            refine X11.ldc2Long hx hown (mvT hZ (hw _ (List.mem_of_getElem? (i := 9) rfl))) (g := (mkF m 128 #[.val (.long q0), .second, iv p1, iv (p1 &&& (3 : Int32)), .val (.long n), .second, .val (.long r), .second, .unset, .unset] [(.long r), (.long n)])) rfl (hb hby at_128) _ ?_
            show Steps p.tables e below (T11.setTop (mkF m 131 #[.val (.long q0), .second, iv p1, iv (p1 &&& (3 : Int32)), .val (.long n), .second, .val (.long r), .second, .unset, .unset] [(.long (1000000 : Int64)), (.long r), (.long n)])) _
            refine XS.lmul X11.here hx rfl (hb hby at_131) rfl ?_
            show Steps p.tables e below (T11.setTop (mkF m 132 #[.val (.long q0), .second, iv p1, iv (p1 &&& (3 : Int32)), .val (.long n), .second, .val (.long r), .second, .unset, .unset] [(.long (r * (1000000 : Int64))), (.long n)])) _
            refine XS.lsub X11.here hx rfl (hb hby at_132) rfl ?_
            show Steps p.tables e below (T11.setTop (mkF m 133 #[.val (.long q0), .second, iv p1, iv (p1 &&& (3 : Int32)), .val (.long n), .second, .val (.long r), .second, .unset, .unset] [(.long (n - (r * (1000000 : Int64))))])) _
            refine XS.lstore X11.here hx rfl (hb hby at_133) rfl (l' := #[.val (.long q0), .second, iv p1, iv (p1 &&& (3 : Int32)), .val (.long n), .second, .val (.long r), .second, .val (.long (n - (r * (1000000 : Int64)))), .second]) rfl ?_
            show Steps p.tables e below (T11.setTop (mkF m 135 #[.val (.long q0), .second, iv p1, iv (p1 &&& (3 : Int32)), .val (.long n), .second, .val (.long r), .second, .val (.long (n - (r * (1000000 : Int64)))), .second] [])) _
            refine XS.lload X11.here hx rfl (hb hby at_135) rfl ?_
            show Steps p.tables e below (T11.setTop (mkF m 137 #[.val (.long q0), .second, iv p1, iv (p1 &&& (3 : Int32)), .val (.long n), .second, .val (.long r), .second, .val (.long (n - (r * (1000000 : Int64)))), .second] [(.long (n - (r * (1000000 : Int64))))])) _
            refine XS.lconst X11.here hx rfl (hb hby at_137) ?_
            show Steps p.tables e below (T11.setTop (mkF m 138 #[.val (.long q0), .second, iv p1, iv (p1 &&& (3 : Int32)), .val (.long n), .second, .val (.long r), .second, .val (.long (n - (r * (1000000 : Int64)))), .second] [(.long (0 : Int64)), (.long (n - (r * (1000000 : Int64))))])) _
            refine XS.lcmp X11.here hx rfl (hb hby at_138) rfl ?_
            exact kt
          by_cases hc139 : (lcmpW (n - (r * (1000000 : Int64))) (0 : Int64)) < (0 : Int32)
          · have pre25 : ∀ t, Steps p.tables e below (T11.setTop (mkF m 156 #[.val (.long q0), .second, iv p1, iv (p1 &&& (3 : Int32)), .val (.long n), .second, .val (.long r), .second, .val (.long (n - (r * (1000000 : Int64)))), .second] [(.int (0 : Int32))])) t → Steps p.tables e below (s₁.setTop (entryFrame m #[(.long q0), (.int p1)] maxLocals)) t := by
              intro t kt
              refine pre24 _ ?_
              show Steps p.tables e below (T11.setTop (mkF m 139 #[.val (.long q0), .second, iv p1, iv (p1 &&& (3 : Int32)), .val (.long n), .second, .val (.long r), .second, .val (.long (n - (r * (1000000 : Int64)))), .second] [(.int (lcmpW (n - (r * (1000000 : Int64))) (0 : Int64)))])) _
              refine XS.ifYes X11.here hx rfl (pc0 := 139) (pc' := 155) rfl (hb hby at_139) rfl ((if0 _ _).trans (tlt hc139).1) (by decide) (by decide) ?_
              show Steps p.tables e below (T11.setTop (mkF m 155 #[.val (.long q0), .second, iv p1, iv (p1 &&& (3 : Int32)), .val (.long n), .second, .val (.long r), .second, .val (.long (n - (r * (1000000 : Int64)))), .second] [])) _
              refine XS.iconst X11.here hx rfl (hb hby at_155) ?_
              exact kt
            exfalso
            exact ((own_law n r h_r).2.2 hc66 hc88).2.2.1 hc139
          · have pre26 : ∀ t, Steps p.tables e below (T11.setTop (mkF m 148 #[.val (.long q0), .second, iv p1, iv (p1 &&& (3 : Int32)), .val (.long n), .second, .val (.long r), .second, .val (.long (n - (r * (1000000 : Int64)))), .second] [(.int (lcmpW (n - (r * (1000000 : Int64))) (1000000 : Int64)))])) t → Steps p.tables e below (s₁.setTop (entryFrame m #[(.long q0), (.int p1)] maxLocals)) t := by
              intro t kt
              refine pre24 _ ?_
              show Steps p.tables e below (T11.setTop (mkF m 139 #[.val (.long q0), .second, iv p1, iv (p1 &&& (3 : Int32)), .val (.long n), .second, .val (.long r), .second, .val (.long (n - (r * (1000000 : Int64)))), .second] [(.int (lcmpW (n - (r * (1000000 : Int64))) (0 : Int64)))])) _
              refine XS.ifNo X11.here hx rfl (hb hby at_139) rfl ((if0 _ _).trans (flt hc139).1) ?_
              show Steps p.tables e below (T11.setTop (mkF m 142 #[.val (.long q0), .second, iv p1, iv (p1 &&& (3 : Int32)), .val (.long n), .second, .val (.long r), .second, .val (.long (n - (r * (1000000 : Int64)))), .second] [])) _
              refine XS.lload X11.here hx rfl (hb hby at_142) rfl ?_
              show Steps p.tables e below (T11.setTop (mkF m 144 #[.val (.long q0), .second, iv p1, iv (p1 &&& (3 : Int32)), .val (.long n), .second, .val (.long r), .second, .val (.long (n - (r * (1000000 : Int64)))), .second] [(.long (n - (r * (1000000 : Int64))))])) _
              refine X11.ldc2Long hx hown (mvT hZ (hw _ (List.mem_of_getElem? (i := 9) rfl))) (g := (mkF m 144 #[.val (.long q0), .second, iv p1, iv (p1 &&& (3 : Int32)), .val (.long n), .second, .val (.long r), .second, .val (.long (n - (r * (1000000 : Int64)))), .second] [(.long (n - (r * (1000000 : Int64))))])) rfl (hb hby at_144) _ ?_
              show Steps p.tables e below (T11.setTop (mkF m 147 #[.val (.long q0), .second, iv p1, iv (p1 &&& (3 : Int32)), .val (.long n), .second, .val (.long r), .second, .val (.long (n - (r * (1000000 : Int64)))), .second] [(.long (1000000 : Int64)), (.long (n - (r * (1000000 : Int64))))])) _
              refine XS.lcmp X11.here hx rfl (hb hby at_147) rfl ?_
              exact kt
            by_cases hc148 : (lcmpW (n - (r * (1000000 : Int64))) (1000000 : Int64)) < (0 : Int32)
            · have pre27 : ∀ t, Steps p.tables e below (T11.setTop (mkF m 156 #[.val (.long q0), .second, iv p1, iv (p1 &&& (3 : Int32)), .val (.long n), .second, .val (.long r), .second, .val (.long (n - (r * (1000000 : Int64)))), .second] [(.int (1 : Int32))])) t → Steps p.tables e below (s₁.setTop (entryFrame m #[(.long q0), (.int p1)] maxLocals)) t := by
                intro t kt
                refine pre26 _ ?_
                show Steps p.tables e below (T11.setTop (mkF m 148 #[.val (.long q0), .second, iv p1, iv (p1 &&& (3 : Int32)), .val (.long n), .second, .val (.long r), .second, .val (.long (n - (r * (1000000 : Int64)))), .second] [(.int (lcmpW (n - (r * (1000000 : Int64))) (1000000 : Int64)))])) _
                refine XS.ifNo X11.here hx rfl (hb hby at_148) rfl ((if0 _ _).trans (tlt hc148).2.1) ?_
                show Steps p.tables e below (T11.setTop (mkF m 151 #[.val (.long q0), .second, iv p1, iv (p1 &&& (3 : Int32)), .val (.long n), .second, .val (.long r), .second, .val (.long (n - (r * (1000000 : Int64)))), .second] [])) _
                refine XS.iconst X11.here hx rfl (hb hby at_151) ?_
                show Steps p.tables e below (T11.setTop (mkF m 152 #[.val (.long q0), .second, iv p1, iv (p1 &&& (3 : Int32)), .val (.long n), .second, .val (.long r), .second, .val (.long (n - (r * (1000000 : Int64)))), .second] [(.int (1 : Int32))])) _
                refine XS.goto X11.here hx rfl (pc0 := 152) (pc' := 156) rfl (hb hby at_152) (by decide) (by decide) ?_
                exact kt
              obtain ⟨fs, hr, hrun, hended, hW, hsame⟩ := X11.leave (v := some (.int (1 : Int32))) (fun h => by rw [Bd.returns] at h; cases h)
              refine ⟨_, _, pre27 _ ?_, hrun, hended, _, _, rfl, ?_, ⟨_, rfl⟩, hW, hsame.mono (by decide) (by decide)⟩
              · show Steps p.tables e below (T11.setTop (mkF m 156 #[.val (.long q0), .second, iv p1, iv (p1 &&& (3 : Int32)), .val (.long n), .second, .val (.long r), .second, .val (.long (n - (r * (1000000 : Int64)))), .second] [(.int (1 : Int32))])) _
                exact retN X11 hx (t := .boolean) Bd.returns (by simp) (hb hby at_156) hr
              · show Q0 Z q0 p1 h0 n0 _ T11.heap _
                rw [hh11]
                exact ⟨rfl, N11⟩
            · have pre28 : ∀ t, Steps p.tables e below (T11.setTop (mkF m 156 #[.val (.long q0), .second, iv p1, iv (p1 &&& (3 : Int32)), .val (.long n), .second, .val (.long r), .second, .val (.long (n - (r * (1000000 : Int64)))), .second] [(.int (0 : Int32))])) t → Steps p.tables e below (s₁.setTop (entryFrame m #[(.long q0), (.int p1)] maxLocals)) t := by
                intro t kt
                refine pre26 _ ?_
                show Steps p.tables e below (T11.setTop (mkF m 148 #[.val (.long q0), .second, iv p1, iv (p1 &&& (3 : Int32)), .val (.long n), .second, .val (.long r), .second, .val (.long (n - (r * (1000000 : Int64)))), .second] [(.int (lcmpW (n - (r * (1000000 : Int64))) (1000000 : Int64)))])) _
                refine XS.ifYes X11.here hx rfl (pc0 := 148) (pc' := 155) rfl (hb hby at_148) rfl ((if0 _ _).trans (flt hc148).2.1) (by decide) (by decide) ?_
                show Steps p.tables e below (T11.setTop (mkF m 155 #[.val (.long q0), .second, iv p1, iv (p1 &&& (3 : Int32)), .val (.long n), .second, .val (.long r), .second, .val (.long (n - (r * (1000000 : Int64)))), .second] [])) _
                refine XS.iconst X11.here hx rfl (hb hby at_155) ?_
                exact kt
              exfalso
              exact hc148 ((own_law n r h_r).2.2 hc66 hc88).2.2.2
set_option maxRecDepth 65536 in
set_option maxHeartbeats 40000000 in
theorem comes_1 {Post : Tables → Env → Array Value → State → Outcome → State → Prop} (hpost : ∀ tb e args s v u, (limb_1_1.after args s (.returned v) u = true ∧ limb_1_2.after args s (.returned v) u = true ∧ True) → FrameEnd s (.returned v) u (Jvm.fieldLocs frame_1_writes args s ++ Jvm.arrayLocs frame_1_arrays args s ++ Jvm.staticLocs frame_1_statics s) 0 0 → Post tb e args s (.returned v) u) :
    ArmFor flags0 classFile x code maxLocals ret World_1 tables_1 room_1 Calls_1 rest_1 Pre_1 Post := by
  intro l hfl _ _ p e ha hc hk s m args below hf hA hF happ hP
  obtain ⟨hcalls, hrest, hpre⟩ := hP
  obtain ⟨-, -, -, hnamed, -, -, -, hat⟩ := (Spec.applies_iff hf).mp happ
  obtain ⟨hg, hn⟩ := and_e (Cond.before_iff.mp (show (Jvm.Cond.and given_1 narrow_1).before args s = true from hpre))
  obtain ⟨gg1, gg2⟩ := and_e hg
  obtain ⟨gg3, gg4⟩ := and_e gg2
  obtain ⟨w0, w1, rfl⟩ : ∃ w0 w1 : Value, args = #[w0, w1] := by
    have hs : args.size = 2 := by simpa [Cond.value, given_1] using gg1
    obtain ⟨L⟩ := args
    match L, hs with
    | [w0, w1], _ => exact ⟨w0, w1, rfl⟩
  have hw := fun d (hd : d ∈ tables_1) => atoms_spec (ws := Jvm.Cond.code x code maxLocals ret :: tables_1) hat d (List.mem_cons_of_mem _ hd)
  have hfit : Fit s := fun {y c} hc i hi => by
    obtain ⟨ha, rfl⟩ := Array.getElem?_eq_some_iff.mp hc
    have q := List.all_eq_true.mp ((Array.all_eq_true_iff_forall_mem.mp hF) _ (Array.getElem_mem ha)) i (List.mem_range.mpr hi)
    simpa [Array.getElem?_eq_getElem hi] using q
  obtain ⟨i0, ei0⟩ := isL_v gg3
  obtain rfl : w0 = (.long i0) := Option.some.inj ei0
  obtain ⟨i1, ei1⟩ := is_v gg4
  obtain rfl : w1 = (.int i1) := Option.some.inj ei1
  obtain ⟨n, o, h1, h2, h3, _, L, rfl, ⟨rfl, N⟩, hq⟩ := rm0 l s _ hw tables_1 i0 i1 s.heap s.heap.size (Nat.le_refl _) p e ha hc hk s m _ below hf ((Spec.applies_iff_loose hf).mp happ).1 ⟨rfl, State.Warmed39.refl s, rfl⟩ trivial
  refine ⟨n, _, h1, h2, h3, hpost _ _ _ _ _ _ ⟨Cond.after_iff.mpr rfl, Cond.after_iff.mpr (eq_i res_at (Term.int_eval (1)) rfl), trivial⟩ ⟨hq.1, hq.2.1, (hq.2.2.sift fun y hy => Or.inr (N y hy)).mono (by decide) (by decide)⟩⟩
theorem main_1_1 : Claimed_1_1 := comes_1 fun _ _ _ _ _ _ h hF => ⟨h.1, hF⟩
theorem main_1_2 : Claimed_1_2 := comes_1 fun _ _ _ _ _ _ h hF => ⟨h.2.1, hF⟩
end Jvm.Pilot.@@N@@
namespace Jvm.Pilot.@@N@@
open Jvm Jvm.ClassFile Sem Op Lib Jvm.Free Jvm.Stand Jvm.Pilot.@@N@@.Jvm.D
/-! MADE BY PROGRAM (witnessworld.py) out of the Statement's table words and the real class files: 9 classes; the members and pool entries that the words name. The judged class is class 1, her method 1. -/
namespace start1
open Jvm.ClassFile
def u (s : String) : CpInfo := .utf8 (stringToUtf16 s)
/-- a pool by its gaps: so many unusable entries, then the entry; so many at the end -/
def gap : Nat → List CpInfo → List CpInfo
  | 0, r => r
  | n + 1, r => .unusable :: gap n r
def poolList (es : List (Nat × CpInfo)) (last : Nat) : List CpInfo := es.foldr (fun e r => gap e.1 (e.2 :: r)) (gap last [])
def pool (es : List (Nat × CpInfo)) (last : Nat) : Array CpInfo := ⟨poolList es last⟩
def fileOf (pool : Array CpInfo) (this : Nat) (attrs : Array Attribute := #[]) (ms : Array MethodInfo := #[]) (fl : Nat := 33) (sup : Nat := 0) (ifs : Array Nat := #[]) (fds : Array FieldInfo := #[]) : ClassFile where
  minorVersion := 0
  majorVersion := 65
  constantPool := pool
  accessFlags := fl
  thisClass := this
  superClass := sup
  interfaces := ifs
  fields := fds
  methods := ms
  attributes := attrs
def plain (name : String) (sup : Option ClassId) : Class where
  name := name
  kind := .ordinary
  loader := none
  accessFlags := 33
  super := sup
  interfaces := #[]
  cf := none
  fields := #[]
  methods := #[]
  instanceTypes := #[]
  staticTypes := #[]
  resolved := #[]
  callSites := []
  init := .initialized
  statics := none
  mirror := none

def pool0 : Array CpInfo := pool [(5, u "<init>"), (0, u "()V"), (1, .class_ 10), (1, u "java/lang/Object")] 113

def k0m0 : Method := { name := "<init>", desc := "()V", sig := { parameters := [], returnType := none }, accessFlags := 1, code := none }
/-- java/lang/Object -/
def k0 : Class := { plain "java/lang/Object" none with
  accessFlags := 33
  interfaces := #[]
  cf := some (fileOf pool0 8 #[] #[{ accessFlags := 1, nameIndex := 5, descriptorIndex := 6, attributes := #[] }] 33 0 #[] #[])
  fields := #[]
  methods := #[k0m0]
  instanceTypes := #[]
  staticTypes := #[]
  resolved := Array.replicate 124 none
  statics := none }

def pool1 : Array CpInfo := pool [(2, .class_ 4), (1, u "java/lang/Object"), (0, u "<init>"), (0, u "()V"), (2, .long 9223372036854775807), (1, .long 2000000), (1, .long 1048575), (1, .methodref 16 17), (0, .class_ 18), (0, .nameAndType 19 20), (0, u "com/example/loopsmith/loopsmith/queue/WatchedChannels"), (0, u "selectMillis"), (0, u "(J)J"), (0, .class_ 22), (0, u "com/example/loopsmith/loopsmith/queue/WatchedChannelsSelectMillisPinLaw"), (0, .long 1000000), (1, .long 18446744073709551615), (1, .long 9223372036854), (1, u "NANOS_PER_MILLI"), (0, u "J"), (1, u "MAX_MILLIS"), (2, u "law"), (0, u "(JI)Z")] 3

def k1m0 : Method := { name := "<init>", desc := "()V", sig := { parameters := [], returnType := none }, accessFlags := 1, code := none }
def k1c1 : Code := { maxStack := 6, maxLocals := 10, code := code, exceptionTable := #[], attributes := #[] }
def k1m1 : Method := { name := "law", desc := "(JI)Z", sig := { parameters := [.long, .int], returnType := some .boolean }, accessFlags := 9, code := some k1c1 }
/-- com/example/loopsmith/loopsmith/queue/WatchedChannelsSelectMillisPinLaw -/
def k1 : Class := { plain "com/example/loopsmith/loopsmith/queue/WatchedChannelsSelectMillisPinLaw" (some 0) with
  accessFlags := 49
  interfaces := #[]
  cf := some (fileOf pool1 21 #[] #[{ accessFlags := 1, nameIndex := 5, descriptorIndex := 6, attributes := #[] }, { accessFlags := 9, nameIndex := 35, descriptorIndex := 36, attributes := #[] }] 49 2 #[] #[{ accessFlags := 26, nameIndex := 29, descriptorIndex := 30, attributes := #[] }, { accessFlags := 26, nameIndex := 32, descriptorIndex := 30, attributes := #[] }])
  fields := #[{ name := "NANOS_PER_MILLI", type := .long, accessFlags := 26, slot := 0, constantValue := 0 }, { name := "MAX_MILLIS", type := .long, accessFlags := 26, slot := 1, constantValue := 0 }]
  methods := #[k1m0, k1m1]
  instanceTypes := #[]
  staticTypes := #[.long, .long]
  resolved := Array.replicate 40 none
  statics := none }

def pool2 : Array CpInfo := pool [(4, .class_ 6), (1, u "java/lang/Object"), (6, .class_ 15), (1, u "com/example/loopsmith/loopsmith/queue/WatchedChannels"), (0, u "registrations"), (0, u "Ljava/util/Map;"), (5, u "awaitingSelector"), (0, u "Ljava/util/ArrayList;"), (5, u "found"), (0, u "Ljava/util/ArrayDeque;"), (2, u "lock"), (0, u "Ljava/util/concurrent/locks/ReentrantLock;"), (50, u "selector"), (0, u "Ljava/nio/channels/Selector;"), (21, .class_ 110), (0, u "com/example/loopsmith/loopsmith/queue/WatchedChannels$Registration"), (25, u "I"), (19, u "closed"), (0, u "Z"), (5, u "cancelled"), (2, u "looks"), (52, .long 9223372036854775807), (1, .long 1000000), (1, .long 18446744073709551615), (36, u "keys"), (63, u "ALL_EVENTS"), (2, u "LOOKS_PER_SELECTION"), (1, u "NANOS_PER_MILLI"), (0, u "J"), (0, u "SELECTOR_FAILED"), (0, u "Ljava/lang/String;"), (18, u "selectMillis"), (0, u "(J)J")] 35

def k2c0 : Code := { maxStack := 4, maxLocals := 4, code := prog_45_method_11_code, exceptionTable := #[], attributes := #[] }
def k2m0 : Method := { name := "selectMillis", desc := "(J)J", sig := { parameters := [.long], returnType := some .long }, accessFlags := 8, code := some k2c0 }
/-- com/example/loopsmith/loopsmith/queue/WatchedChannels -/
def k2 : Class := { plain "com/example/loopsmith/loopsmith/queue/WatchedChannels" (some 0) with
  accessFlags := 48
  interfaces := #[]
  cf := some (fileOf pool2 13 #[.nestMembers #[109]] #[{ accessFlags := 8, nameIndex := 351, descriptorIndex := 352, attributes := #[] }] 48 4 #[] #[{ accessFlags := 24, nameIndex := 324, descriptorIndex := 136, attributes := #[] }, { accessFlags := 24, nameIndex := 327, descriptorIndex := 136, attributes := #[] }, { accessFlags := 26, nameIndex := 329, descriptorIndex := 330, attributes := #[] }, { accessFlags := 26, nameIndex := 331, descriptorIndex := 332, attributes := #[] }, { accessFlags := 18, nameIndex := 34, descriptorIndex := 35, attributes := #[] }, { accessFlags := 18, nameIndex := 16, descriptorIndex := 17, attributes := #[] }, { accessFlags := 18, nameIndex := 23, descriptorIndex := 24, attributes := #[] }, { accessFlags := 18, nameIndex := 30, descriptorIndex := 31, attributes := #[] }, { accessFlags := 2, nameIndex := 86, descriptorIndex := 87, attributes := #[] }, { accessFlags := 2, nameIndex := 260, descriptorIndex := 136, attributes := #[] }, { accessFlags := 2, nameIndex := 163, descriptorIndex := 157, attributes := #[] }, { accessFlags := 2, nameIndex := 156, descriptorIndex := 157, attributes := #[] }, { accessFlags := 2, nameIndex := 166, descriptorIndex := 136, attributes := #[] }])
  fields := #[{ name := "ALL_EVENTS", type := .int, accessFlags := 24, slot := 0, constantValue := 0 }, { name := "LOOKS_PER_SELECTION", type := .int, accessFlags := 24, slot := 1, constantValue := 0 }, { name := "NANOS_PER_MILLI", type := .long, accessFlags := 26, slot := 2, constantValue := 0 }, { name := "SELECTOR_FAILED", type := (.object "java/lang/String"), accessFlags := 26, slot := 3, constantValue := 0 }, { name := "lock", type := (.object "java/util/concurrent/locks/ReentrantLock"), accessFlags := 18, slot := 0, constantValue := 0 }, { name := "registrations", type := (.object "java/util/Map"), accessFlags := 18, slot := 1, constantValue := 0 }, { name := "awaitingSelector", type := (.object "java/util/ArrayList"), accessFlags := 18, slot := 2, constantValue := 0 }, { name := "found", type := (.object "java/util/ArrayDeque"), accessFlags := 18, slot := 3, constantValue := 0 }, { name := "selector", type := (.object "java/nio/channels/Selector"), accessFlags := 2, slot := 4, constantValue := 0 }, { name := "keys", type := .int, accessFlags := 2, slot := 5, constantValue := 0 }, { name := "cancelled", type := .boolean, accessFlags := 2, slot := 6, constantValue := 0 }, { name := "closed", type := .boolean, accessFlags := 2, slot := 7, constantValue := 0 }, { name := "looks", type := .int, accessFlags := 2, slot := 8, constantValue := 0 }]
  methods := #[k2m0]
  instanceTypes := #[(.object "java/util/concurrent/locks/ReentrantLock"), (.object "java/util/Map"), (.object "java/util/ArrayList"), (.object "java/util/ArrayDeque"), (.object "java/nio/channels/Selector"), .int, .boolean, .boolean, .int]
  staticTypes := #[.int, .int, .long, (.object "java/lang/String")]
  resolved := Array.replicate 388 none
  statics := none }

def pool3 : Array CpInfo := pool [(1, u "java/lang/Cloneable"), (0, .class_ 1), (0, u "java/lang/Object"), (0, .class_ 3)] 3

/-- java/lang/Cloneable -/
def k3 : Class := { plain "java/lang/Cloneable" (some 0) with
  accessFlags := 1537
  interfaces := #[]
  cf := some (fileOf pool3 2 #[] #[] 1537 4 #[] #[])
  fields := #[]
  methods := #[]
  instanceTypes := #[]
  staticTypes := #[]
  resolved := Array.replicate 8 none
  statics := none }

def pool4 : Array CpInfo := pool [(1, u "java/io/Serializable"), (0, .class_ 1), (0, u "java/lang/Object"), (0, .class_ 3)] 3

/-- java/io/Serializable -/
def k4 : Class := { plain "java/io/Serializable" (some 0) with
  accessFlags := 1537
  interfaces := #[]
  cf := some (fileOf pool4 2 #[] #[] 1537 4 #[] #[])
  fields := #[]
  methods := #[]
  instanceTypes := #[]
  staticTypes := #[]
  resolved := Array.replicate 8 none
  statics := none }

/-- the primitive byte -/
def k5 : Class := { plain "byte" none with kind := .primitive 'B', accessFlags := 0x411 }
/-- [B -/
def k6 : Class := { plain "[B" (some 0) with kind := .array 5 .byte, interfaces := #[3, 4], accessFlags := 1041 }

/-- the primitive int -/
def k7 : Class := { plain "int" none with kind := .primitive 'I', accessFlags := 0x411 }
/-- [I -/
def k8 : Class := { plain "[I" (some 0) with kind := .array 7 .int, interfaces := #[3, 4], accessFlags := 1041 }

def heap : Heap := #[]
def classes : Array Class := #[k0, k1, k2, k3, k4, k5, k6, k7, k8]
def interned : List (Array UInt16 × Addr) := []
def slotsUsed : Nat := 0
def theMethod : MethodId := ⟨1, 1⟩
def args0 : Array Value := #[.long 5, .int 6]
def aboutOver (below : List Frame) : State where
  vm := { classes := classes, interned := interned.toArray }
  heap := heap
  slotsUsed := slotsUsed
  threads := #[{ frames := .invoking theMethod args0 :: below }]
def below0 : List Frame := [.native { method := ⟨0, 0⟩, args := #[] }]
def about1 : State := aboutOver below0
def p0 : Program := .bare "" "" ""
def e0 : Env := launch0.env 0 0 0
theorem w_frames : about1.frames = Frame.invoking theMethod args0 :: below0 := rfl
set_option maxRecDepth 65536 in
theorem w_args : argsFit about1.vm theMethod args0 = true := by decide +kernel
set_option maxRecDepth 65536 in
theorem w_heap : heapFits about1 = true := by decide +kernel
set_option maxRecDepth 65536 in
theorem w_runnable : about1.curStatus? = some .runnable := by decide +kernel
set_option maxRecDepth 65536 in
theorem w_alone : about1.alone = true := by decide +kernel
set_option maxRecDepth 65536 in
theorem w_named : about1.methodNamed? x = some theMethod := by decide +kernel
set_option maxRecDepth 65536 in
theorem w_hears : about1.hears theMethod below0 = true := by decide +kernel
set_option maxRecDepth 65536 in
theorem w_ripe : about1.ripe theMethod args0 below0 = true := by decide +kernel
theorem w_running : about1.status = .running := rfl
set_option maxRecDepth 65536 in
theorem w_room : about1.hasRoom e0.platform room_1 = true :=
  launch0.hasRoom_least _ room_1 (by decide +kernel) (by decide +kernel) (by decide +kernel) (by decide +kernel) (by decide +kernel) (by decide +kernel)
theorem allAtoms_all (ts : List Jvm.Cond) (a : Array Jvm.Value) (st : Jvm.State) : (allAtoms ts).before a st = ts.all (fun c => c.before a st) := by
  induction ts with
  | nil => rfl
  | cons c t ih =>
    show (Jvm.Cond.and c (allAtoms t)).before a st = _
    rw [Jvm.Cond.before_and, ih, List.all_cons]
def words1 : List Jvm.Cond := Jvm.Cond.code x code maxLocals ret :: tables_1
/-- a 'code' word, met by the world's own term for the bytes: nothing is compared byte by byte -/
theorem code_word {y : MethodName} {bytes : ByteArray} {mx : Nat} {rt : Option FieldType} {a : Array Value} {s : State} {m : MethodId} {meth : Method} {c : Code} (h1 : s.methodNamed? y = some m) (h2 : s.vm.method? m = some meth) (h3 : meth.code = some c) (h4 : c.code = bytes)
    (h5 : (c.maxLocals == mx && c.exceptionTable.isEmpty && decide (c.maxStack ≤ mostOperands) && decide (meth.sig.returnType = rt) && !meth.locks && decide (parseMethodDescriptor y.desc = some meth.sig)) = true) : (Jvm.Cond.code y bytes mx rt).before a s = true := by
  simp only [Bool.and_eq_true, beq_iff_eq, Bool.not_eq_true', decide_eq_true_eq] at h5
  obtain ⟨⟨⟨⟨⟨g1, g2⟩, g3⟩, g4⟩, g5⟩, g6⟩ := h5
  simp [Cond.before, Cond.holds, Cond.value, h1, h2, h3, h4, g1, g2, g3, g4, g5, g6]
def isCode : Jvm.Cond → Bool
  | .code _ _ _ _ => true
  | _ => false
theorem all_split {L : List Jvm.Cond} {P : Jvm.Cond → Bool} (h1 : L.all (fun c => isCode c || P c) = true) (h2 : ∀ c ∈ L.filter isCode, P c = true) : L.all P = true := by
  refine List.all_eq_true.mpr fun c hc => ?_
  have h := List.all_eq_true.mp h1 c hc
  rcases Bool.eq_false_or_eq_true (isCode c) with hi | hi
  · exact h2 c (List.mem_filter.mpr ⟨hc, hi⟩)
  · simpa [hi] using h
set_option maxRecDepth 65536 in
theorem w_c0 : (Jvm.Cond.code x code maxLocals ret).before args0 about1 = true := code_word (m := ⟨1, 1⟩) (meth := k1m1) (c := k1c1) (by decide +kernel) rfl rfl rfl (by decide +kernel)
set_option maxRecDepth 65536 in
theorem w_c1 : (Jvm.Cond.code ({ cls := "com/example/loopsmith/loopsmith/queue/WatchedChannels", name := "selectMillis", desc := "(J)J" } : Jvm.MethodName) prog_45_method_11_code (4 : Nat) (Option.some Jvm.ClassFile.FieldType.long)).before args0 about1 = true := code_word (m := ⟨2, 0⟩) (meth := k2m0) (c := k2c0) (by decide +kernel) rfl rfl rfl (by decide +kernel)
def codes1 : List Jvm.Cond := [Jvm.Cond.code x code maxLocals ret, Jvm.Cond.code ({ cls := "com/example/loopsmith/loopsmith/queue/WatchedChannels", name := "selectMillis", desc := "(J)J" } : Jvm.MethodName) prog_45_method_11_code (4 : Nat) (Option.some Jvm.ClassFile.FieldType.long)]
set_option maxRecDepth 65536 in
theorem codes_eq : words1.filter isCode = codes1 := rfl
theorem w_codes : ∀ c ∈ words1.filter isCode, c.before args0 about1 = true := by
  rw [codes_eq]
  intro c hc
  simp only [codes1, List.mem_cons, List.not_mem_nil, or_false] at hc
  rcases hc with rfl | rfl
  · exact w_c0
  · exact w_c1
set_option maxRecDepth 65536 in
theorem w_t1 : words1.all (fun c => isCode c || c.before args0 about1) = true := by decide +kernel
theorem w_tables : (allAtoms (Jvm.Cond.code x code maxLocals ret :: tables_1)).before args0 about1 = true := by
  rw [allAtoms_all]
  show words1.all (fun c => c.before args0 about1) = true
  refine all_split ?_ w_codes
  rw [w_t1]
set_option maxRecDepth 65536 in
theorem w_case : (Jvm.Cond.and given_1 narrow_1).before args0 about1 = true := by decide +kernel
theorem w_applies : (headSpec (Jvm.Cond.code x code maxLocals ret :: tables_1) room_1).applies x e0.platform about1 = true :=
  (Spec.applies_iff w_frames).mpr ⟨w_running, w_runnable, w_alone, w_named, w_hears, w_ripe, w_room, w_tables⟩
theorem atStart : AtStart classFile x code maxLocals ret World_1 tables_1 room_1 Calls_1 rest_1 Pre_1 launch0 p0 e0 about1 theMethod args0 below0 :=
  ⟨lists_1, trivial, launch0.admits_env _ _ _, launch0.least_env, fairChoices_fair.cas, fairChoices_fair.clock, w_frames, w_args, w_heap, w_applies, trivial, trivial, w_case⟩
end start1
theorem witness_1 : WitnessClaimed_1 := ⟨start1.p0, start1.e0, start1.about1, start1.theMethod, start1.args0, start1.below0, start1.atStart⟩
end Jvm.Pilot.@@N@@
