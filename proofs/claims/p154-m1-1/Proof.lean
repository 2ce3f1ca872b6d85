import JvmDerived
import JvmDerived.Pilot.@@N@@Statement
import JvmDerived.Pilot.@@N@@Code
set_option linter.unusedVariables false
set_option linter.unusedSimpArgs false
namespace Jvm.RoadKit
open Sem ClassFile Op Lib Jvm.Stand Jvm.Free Jvm.LawKit
section New
variable {p : Program} {l : Launch} {e : Env} {R : Room} {s : State} {m : MethodId} {args : Array Value} {below : List Frame} {meth : Method} {c : Code} {T : State} {locs : List Loc} {cells slots : Nat}
theorem retI (X : Stand p l e R s m args below meth c T locs cells slots) (hx : p.tables.exec = Jvm.exec) {pc : Nat} {Ls : Array Slot} {z : Int32} {rest : List Value} (hret : meth.sig.returnType = some .int) (hd : decode c.code pc = .ok (.ireturn, 1)) {fs : List Frame}
    (hl : ∀ (f : JFrame) (acts : List Action), f.method = m → f.locked = none → f.entered = [] → (doReturn e (T.setTop f) acts (some (.int z))).1 = T.setFrames fs) : Steps p.tables e below (T.setTop (mkF m pc Ls (.int z :: rest))) (T.setFrames fs) := by
  have hm' : T.vm.method? m = some meth := X.method'
  have hn : narrow .int (.int z) = .int z := rfl
  show Steps p.tables e below (T.setTop { method := m, pc := pc, locals := Ls, stack := _ :: rest, locked := none }) _
  jvm_step X.here [X.here.top, hx, hd, hm', hret, hn]
  first | (intro acts; rw [hl _ acts rfl rfl rfl]) | rw [hl _ _ rfl rfl rfl]
  exact Steps.refl _
end New
end Jvm.RoadKit

namespace Jvm.Pilot.@@N@@
open Jvm Jvm.ClassFile Sem Op Lib Jvm.Free Jvm.Stand Jvm.LawKit Jvm.RoadKit Bundle Jvm.Pilot.@@N@@.Jvm.D
theorem own_nb (x : Int32) : nar .byte (x.toInt8.toInt32) = x.toInt8.toInt32 := by
  show (x.toInt8.toInt32).toInt8.toInt32 = x.toInt8.toInt32
  simp
theorem own_fb {x : Int32} (h : nar .byte x = x) : fits .byte (.int x) = true := by
  have q := fits_nar_byte x
  have e : x.toInt8.toInt32 = x := h
  rwa [e] at q
theorem own_nc (x : Int32) : nar .char (x.toUInt32.toUInt16.toUInt32.toInt32) = x.toUInt32.toUInt16.toUInt32.toInt32 := by
  show (x.toUInt32.toUInt16.toUInt32.toInt32).toUInt32.toUInt16.toUInt32.toInt32 = x.toUInt32.toUInt16.toUInt32.toInt32
  apply Int32.toInt_inj.mp
  have h1 := c_i2c x
  have h2 := c_i2c (x.toUInt32.toUInt16.toUInt32.toInt32)
  omega
theorem own_fc {x : Int32} (h : nar .char x = x) : fits .char (.int x) = true := by
  have q := fits_nar_char x
  rwa [h] at q
def own_lower (x : Int32) : Int32 := if x < (65 : Int32) then (nar .byte x) else (if (90 : Int32) < x then (nar .byte x) else (nar .byte ((((x - (65 : Int32)) + (97 : Int32)).toInt8.toInt32))))
def own_lowb (x : Int32) : Int32 := if x < (65 : Int32) then x else (if (90 : Int32) < x then x else (((x + (32 : Int32)).toInt8.toInt32)))
theorem own_low_eq (x : Int32) (hx : nar .byte x = x) : own_lower x = own_lowb x := by
  unfold own_lower own_lowb
  have e : (x - (65 : Int32)) + (97 : Int32) = x + (32 : Int32) := by
    apply Int32.toInt_inj.mp
    have h1 := c_isub x 65; have h2 := c_iadd (x - 65) 97; have h3 := c_iadd x 32
    have r1 := rng32 (x - 65); have r2 := rng32 (x - 65 + 97); have r3 := rng32 (x + 32)
    have z1 : (65 : Int32).toInt = 65 := by decide
    have z2 : (97 : Int32).toInt = 97 := by decide
    have z3 : (32 : Int32).toInt = 32 := by decide
    rw [z1] at h1; rw [z2] at h2; rw [z3] at h3
    omega
  rw [hx, e, own_nb]
def own_vl (g : Nat → Int32) (n : Nat) : List Value := (List.range n).map fun k => .int (g k)
theorem own_vl_get (g : Nat → Int32) (n k : Nat) (d : Value) (h : k < n) : (own_vl g n).getD k d = .int (g k) := by
  simp [own_vl, List.getD, h]
theorem own_vl_len (g : Nat → Int32) (n : Nat) : (own_vl g n).length = n := by simp [own_vl]
theorem own_vl_cong (g g' : Nat → Int32) (n : Nat) (h : ∀ k, k < n → g k = g' k) : own_vl g n = own_vl g' n := by
  unfold own_vl
  apply List.map_congr_left
  intro k hk
  rw [h k (List.mem_range.mp hk)]
def own_up (g : Nat → Int32) (j : Nat) (v : Int32) : Nat → Int32 := fun k => if k = j then v else g k
theorem own_vl_set (g : Nat → Int32) (n j : Nat) (v : Int32) : (own_vl g n).set j (.int v) = own_vl (own_up g j v) n := by
  apply List.ext_getElem
  · simp [own_vl]
  · intro k h1 h2
    simp only [own_vl, List.getElem_set, List.getElem_map, List.getElem_range, own_up]
    by_cases c : j = k
    · rw [if_pos c, if_pos c.symm]
    · rw [if_neg c, if_neg (fun q => c q.symm)]
def own_G (f : Nat → Int32) (i : Nat) : Nat → Int32 := fun k => if k < i then own_lowb (f k) else f k
theorem own_G_next (f : Nat → Int32) (i : Nat) : own_up (own_G f i) i (own_lowb (own_G f i i)) = own_G f (i + 1) := by
  funext k
  simp only [own_up, own_G]
  by_cases c : k = i
  · subst c; rw [if_pos rfl, if_neg (by omega : ¬ k < k), if_pos (by omega : k < k + 1)]
  · rw [if_neg c]
    by_cases d : k < i
    · rw [if_pos d, if_pos (by omega)]
    · rw [if_neg d, if_neg (by omega)]
theorem own_G_all (f : Nat → Int32) (n : Nat) : own_vl (own_G f n) n = own_vl (fun k => own_lowb (f k)) n :=
  own_vl_cong _ _ _ fun k hk => by simp only [own_G]; rw [if_pos hk]
theorem own_tn (n : Nat) (h : n ≤ 4) : (Int32.ofNat n).toNatClampNeg = n := by
  match n, h with
  | 0, _ => decide
  | 1, _ => decide
  | 2, _ => decide
  | 3, _ => decide
  | 4, _ => decide
  | k + 5, h => omega
theorem own_ti (n : Nat) (h : n ≤ 4) : (Int32.ofNat n).toInt = n := Int32.toInt_ofNat_small (by omega)
theorem own_lt {i n : Nat} (h : i < n) (hn : n ≤ 4) : Int32.ofNat i < Int32.ofNat n := by
  rw [Int32.lt_iff_toInt_lt, own_ti _ (by omega), own_ti _ hn]; omega
theorem own_nn (n : Nat) (h : n ≤ 4) : ¬ Int32.ofNat n < 0 := by
  rw [Int32.lt_iff_toInt_lt, own_ti _ h]; have : (0 : Int32).toInt = 0 := by decide
  omega
theorem own_succ (i : Nat) (h : i + 1 ≤ 4) : Int32.ofNat i + (1 : Int32) = Int32.ofNat (i + 1) := by
  apply Int32.toInt_inj.mp
  have h1 := c_iadd (Int32.ofNat i) 1
  have z : (1 : Int32).toInt = 1 := by decide
  have r := rng32 (Int32.ofNat i + 1)
  rw [own_ti _ (by omega), z] at h1
  rw [own_ti _ h]; omega
theorem own_five (p : Int32) : ((p &&& (7 : Int32)) % (5 : Int32)) = (0 : Int32) ∨ ((p &&& (7 : Int32)) % (5 : Int32)) = (1 : Int32) ∨ ((p &&& (7 : Int32)) % (5 : Int32)) = (2 : Int32) ∨ ((p &&& (7 : Int32)) % (5 : Int32)) = (3 : Int32) ∨ ((p &&& (7 : Int32)) % (5 : Int32)) = (4 : Int32) := by
  have h1 := c_mask p 7 3 (by decide) (by decide)
  have h2 := (c_irem (p &&& 7) 5 5 (by decide)).1 (by omega)
  simp only [← Int32.toInt_inj]
  have z : (0 : Int32).toInt = 0 ∧ (1 : Int32).toInt = 1 ∧ (2 : Int32).toInt = 2 ∧ (3 : Int32).toInt = 3 ∧ (4 : Int32).toInt = 4 := by decide
  omega
theorem pn0 : plainName "com/example/ereikoussa/ereikoussa/dns/DnsNameLowerCasePinLaw" = true := by first | (simp [plainName, overriddenIn]; done) | decide +kernel
theorem d3_0 : decode method_4_code 0 = .ok (.iload_n 0, 1) := by decide +kernel
theorem d3_1 : decode method_4_code 1 = .ok (.istore_n 1, 1) := by decide +kernel
theorem d3_2 : decode method_4_code 2 = .ok (.iload_n 1, 1) := by decide +kernel
theorem d3_3 : decode method_4_code 3 = .ok (.bipush 65, 2) := by decide +kernel
theorem d3_5 : decode method_4_code 5 = .ok (.if_icmp .lt 18, 3) := by decide +kernel
theorem d3_23 : decode method_4_code 23 = .ok (.iload_n 0, 1) := by decide +kernel
theorem d3_24 : decode method_4_code 24 = .ok (.ireturn, 1) := by decide +kernel
theorem d3_8 : decode method_4_code 8 = .ok (.iload_n 1, 1) := by decide +kernel
theorem d3_9 : decode method_4_code 9 = .ok (.bipush 90, 2) := by decide +kernel
theorem d3_11 : decode method_4_code 11 = .ok (.if_icmp .gt 12, 3) := by decide +kernel
theorem d3_14 : decode method_4_code 14 = .ok (.iload_n 1, 1) := by decide +kernel
theorem d3_15 : decode method_4_code 15 = .ok (.bipush 65, 2) := by decide +kernel
theorem d3_17 : decode method_4_code 17 = .ok (.isub, 1) := by decide +kernel
theorem d3_18 : decode method_4_code 18 = .ok (.bipush 97, 2) := by decide +kernel
theorem d3_20 : decode method_4_code 20 = .ok (.iadd, 1) := by decide +kernel
theorem d3_21 : decode method_4_code 21 = .ok (.i2b, 1) := by decide +kernel
theorem d3_22 : decode method_4_code 22 = .ok (.ireturn, 1) := by decide +kernel
theorem ef_3 (m : MethodId) (x0 : Int32) : entryFrame m #[(.int x0)] 2 = mkF m 0 #[.val (.int x0), .unset] [] := by first | (simp [entryFrame, mkF, argsToLocals, Value.category]; done) | rfl
def Q3 (Z : State) (p0 : Int32) (h0 : Heap) (n0 : Nat) (v : Option Value) (h : Heap) (L : List Loc) : Prop := v = some (.int (own_lower p0)) ∧ Fr n0 L ∧ h = h0
set_option maxRecDepth 65536 in
set_option maxHeartbeats 40000000 in
theorem rm3 (l : Launch) (Z : State) (a0 : Array Value) (hw : ∀ d ∈ tables_1, d.before a0 Z = true) (ws : List Jvm.Cond) (p0 : Int32) (h0 : Heap) (n0 : Nat) (Z0 : n0 ≤ h0.size) :
    MetFree l (⟨"com/example/ereikoussa/ereikoussa/dns/DnsNameLowerCasePinLaw", "lower", "(B)B"⟩ : MethodName) (head1 (Jvm.Cond.code (⟨"com/example/ereikoussa/ereikoussa/dns/DnsNameLowerCasePinLaw", "lower", "(B)B"⟩ : MethodName) method_4_code 2 (some .byte) :: ws) ({ frames := 0, cells := 0, slots := 0, locals := 0 } : Room)) (fun a U => a = #[(.int p0)] ∧ Z.Warmed39 U.vm ∧ U.heap = h0) (fun _ _ _ _ _ => True) (fun _ U o U' => ∃ v L, o = .returned v ∧ Q3 Z p0 h0 n0 v U'.heap L ∧ FrameEnd U o U' L ({ frames := 0, cells := 0, slots := 0, locals := 0 } : Room).cells ({ frames := 0, cells := 0, slots := 0, locals := 0 } : Room).slots) := by
  refine MetFree.of_bodySF (plainFor_of_name pn0) hisR ?_
  intro p e s m args below meth c s₁ Bd hml0 hP hK
  obtain ⟨rfl, hZ, hh⟩ := hP
  have hx := Bd.exec
  have hby := Bd.bytes
  have hml : c.maxLocals = 2 := hml0
  have hown : s.vm.findClass "com/example/ereikoussa/ereikoussa/dns/DnsNameLowerCasePinLaw" = some m.cls := findClass_of_methodNamed Bd.named
  have hnm := (name_of_methodNamed Bd.named Bd.method).1
  have X0 : Stand p l e ({ frames := 0, cells := 0, slots := 0, locals := 0 } : Room) s m #[(.int p0)] below meth c s₁ [] 0 0 := Stand.of_body Bd
  have e0 : s₁.heap = h0 := by rw [← hh, Bd.state]; rfl
  have N0 := Fr.nil n0
  have pre0 : ∀ t, Steps p.tables e below (s₁.setTop (mkF m 0 #[iv p0, .unset] [])) t → Steps p.tables e below (s₁.setTop (entryFrame m #[(.int p0)] 2)) t := fun t k => castTop (ef_3 m p0) k
  have pre1 : ∀ t, Steps p.tables e below (s₁.setTop (mkF m 5 #[iv p0, iv p0] [(.int (65 : Int32)), (.int p0)])) t → Steps p.tables e below (s₁.setTop (entryFrame m #[(.int p0)] 2)) t := by
    intro t kt
    refine pre0 _ ?_
    show Steps p.tables e below (s₁.setTop (mkF m 0 #[iv p0, .unset] [])) _
    refine XS.iloadN X0.here hx rfl (hb hby d3_0) rfl ?_
    show Steps p.tables e below (s₁.setTop (mkF m 1 #[iv p0, .unset] [(.int p0)])) _
    refine XS.istoreN X0.here hx rfl (hb hby d3_1) rfl (l' := #[iv p0, iv p0]) rfl ?_
    show Steps p.tables e below (s₁.setTop (mkF m 2 #[iv p0, iv p0] [])) _
    refine XS.iloadN X0.here hx rfl (hb hby d3_2) rfl ?_
    show Steps p.tables e below (s₁.setTop (mkF m 3 #[iv p0, iv p0] [(.int p0)])) _
    refine XS.bipush X0.here hx rfl (hb hby d3_3) ?_
    exact kt
  by_cases hc5 : p0 < (65 : Int32)
  · have pre2 : ∀ t, Steps p.tables e below (s₁.setTop (mkF m 24 #[iv p0, iv p0] [(.int p0)])) t → Steps p.tables e below (s₁.setTop (entryFrame m #[(.int p0)] 2)) t := by
      intro t kt
      refine pre1 _ ?_
      show Steps p.tables e below (s₁.setTop (mkF m 5 #[iv p0, iv p0] [(.int (65 : Int32)), (.int p0)])) _
      refine XS.icmpYes X0.here hx rfl (pc0 := 5) (pc' := 23) rfl (hb hby d3_5) rfl (tlt hc5).1 (by decide) (by decide) ?_
      show Steps p.tables e below (s₁.setTop (mkF m 23 #[iv p0, iv p0] [])) _
      refine XS.iloadN X0.here hx rfl (hb hby d3_23) rfl ?_
      exact kt
    obtain ⟨fs, hr, hrun, hended, hW, hsame⟩ := X0.leave (v := some (.int (nar .byte p0))) (fun h => by rw [Bd.returns] at h; cases h)
    refine ⟨_, _, pre2 _ ?_, hrun, hended, _, _, rfl, ?_, ⟨_, rfl⟩, hW, hsame.mono (by decide) (by decide)⟩
    · show Steps p.tables e below (s₁.setTop (mkF m 24 #[iv p0, iv p0] [(.int p0)])) _
      exact retN X0 hx (t := .byte) Bd.returns (by simp) (hb hby d3_24) hr
    · show Q3 Z p0 h0 n0 _ s₁.heap _
      rw [e0]
      exact ⟨congrArg (fun z => some (Value.int z)) ((if_pos hc5).trans rfl).symm, N0, rfl⟩
  · have pre3 : ∀ t, Steps p.tables e below (s₁.setTop (mkF m 11 #[iv p0, iv p0] [(.int (90 : Int32)), (.int p0)])) t → Steps p.tables e below (s₁.setTop (entryFrame m #[(.int p0)] 2)) t := by
      intro t kt
      refine pre1 _ ?_
      show Steps p.tables e below (s₁.setTop (mkF m 5 #[iv p0, iv p0] [(.int (65 : Int32)), (.int p0)])) _
      refine XS.icmpNo X0.here hx rfl (hb hby d3_5) rfl (flt hc5).1 ?_
      show Steps p.tables e below (s₁.setTop (mkF m 8 #[iv p0, iv p0] [])) _
      refine XS.iloadN X0.here hx rfl (hb hby d3_8) rfl ?_
      show Steps p.tables e below (s₁.setTop (mkF m 9 #[iv p0, iv p0] [(.int p0)])) _
      refine XS.bipush X0.here hx rfl (hb hby d3_9) ?_
      exact kt
    by_cases hc11 : (90 : Int32) < p0
    · have pre4 : ∀ t, Steps p.tables e below (s₁.setTop (mkF m 24 #[iv p0, iv p0] [(.int p0)])) t → Steps p.tables e below (s₁.setTop (entryFrame m #[(.int p0)] 2)) t := by
        intro t kt
        refine pre3 _ ?_
        show Steps p.tables e below (s₁.setTop (mkF m 11 #[iv p0, iv p0] [(.int (90 : Int32)), (.int p0)])) _
        refine XS.icmpYes X0.here hx rfl (pc0 := 11) (pc' := 23) rfl (hb hby d3_11) rfl (tlt hc11).2.2.1 (by decide) (by decide) ?_
        show Steps p.tables e below (s₁.setTop (mkF m 23 #[iv p0, iv p0] [])) _
        refine XS.iloadN X0.here hx rfl (hb hby d3_23) rfl ?_
        exact kt
      obtain ⟨fs, hr, hrun, hended, hW, hsame⟩ := X0.leave (v := some (.int (nar .byte p0))) (fun h => by rw [Bd.returns] at h; cases h)
      refine ⟨_, _, pre4 _ ?_, hrun, hended, _, _, rfl, ?_, ⟨_, rfl⟩, hW, hsame.mono (by decide) (by decide)⟩
      · show Steps p.tables e below (s₁.setTop (mkF m 24 #[iv p0, iv p0] [(.int p0)])) _
        exact retN X0 hx (t := .byte) Bd.returns (by simp) (hb hby d3_24) hr
      · show Q3 Z p0 h0 n0 _ s₁.heap _
        rw [e0]
        exact ⟨congrArg (fun z => some (Value.int z)) ((if_neg hc5).trans ((if_pos hc11).trans rfl)).symm, N0, rfl⟩
    · have pre5 : ∀ t, Steps p.tables e below (s₁.setTop (mkF m 22 #[iv p0, iv p0] [(.int (((p0 - (65 : Int32)) + (97 : Int32)).toInt8.toInt32))])) t → Steps p.tables e below (s₁.setTop (entryFrame m #[(.int p0)] 2)) t := by
        intro t kt
        refine pre3 _ ?_
        show Steps p.tables e below (s₁.setTop (mkF m 11 #[iv p0, iv p0] [(.int (90 : Int32)), (.int p0)])) _
        refine XS.icmpNo X0.here hx rfl (hb hby d3_11) rfl (flt hc11).2.2.1 ?_
        show Steps p.tables e below (s₁.setTop (mkF m 14 #[iv p0, iv p0] [])) _
        refine XS.iloadN X0.here hx rfl (hb hby d3_14) rfl ?_
        show Steps p.tables e below (s₁.setTop (mkF m 15 #[iv p0, iv p0] [(.int p0)])) _
        refine XS.bipush X0.here hx rfl (hb hby d3_15) ?_
        show Steps p.tables e below (s₁.setTop (mkF m 17 #[iv p0, iv p0] [(.int (65 : Int32)), (.int p0)])) _
        refine XS.isub X0.here hx rfl (hb hby d3_17) rfl ?_
        show Steps p.tables e below (s₁.setTop (mkF m 18 #[iv p0, iv p0] [(.int (p0 - (65 : Int32)))])) _
        refine XS.bipush X0.here hx rfl (hb hby d3_18) ?_
        show Steps p.tables e below (s₁.setTop (mkF m 20 #[iv p0, iv p0] [(.int (97 : Int32)), (.int (p0 - (65 : Int32)))])) _
        refine XS.iadd X0.here hx rfl (hb hby d3_20) rfl ?_
        show Steps p.tables e below (s₁.setTop (mkF m 21 #[iv p0, iv p0] [(.int ((p0 - (65 : Int32)) + (97 : Int32)))])) _
        refine XS.i2b X0.here hx rfl (hb hby d3_21) rfl ?_
        exact kt
      obtain ⟨fs, hr, hrun, hended, hW, hsame⟩ := X0.leave (v := some (.int (nar .byte (((p0 - (65 : Int32)) + (97 : Int32)).toInt8.toInt32)))) (fun h => by rw [Bd.returns] at h; cases h)
      refine ⟨_, _, pre5 _ ?_, hrun, hended, _, _, rfl, ?_, ⟨_, rfl⟩, hW, hsame.mono (by decide) (by decide)⟩
      · show Steps p.tables e below (s₁.setTop (mkF m 22 #[iv p0, iv p0] [(.int (((p0 - (65 : Int32)) + (97 : Int32)).toInt8.toInt32))])) _
        exact retN X0 hx (t := .byte) Bd.returns (by simp) (hb hby d3_22) hr
      · show Q3 Z p0 h0 n0 _ s₁.heap _
        rw [e0]
        exact ⟨congrArg (fun z => some (Value.int z)) ((if_neg hc5).trans ((if_neg hc11).trans rfl)).symm, N0, rfl⟩
theorem own_jn {i z : Int32} {n : Nat} (hi0 : ¬ i < 0) (hiz : i < z) (hzn : z.toNatClampNeg = n) : i.toNatClampNeg < n := by
  have h1 := nat_of hi0
  rw [Int32.lt_iff_toInt_lt] at hi0 hiz
  have z0 : (0 : Int32).toInt = 0 := by decide
  have h2 : ¬ z < 0 := by rw [Int32.lt_iff_toInt_lt]; omega
  have h3 := nat_of h2
  omega
theorem d1_10 : decode prog_15_method_12_code 10 = .ok (.iload_n 2, 1) := by decide +kernel
theorem d1_11 : decode prog_15_method_12_code 11 = .ok (.aload_n 1, 1) := by decide +kernel
theorem d1_12 : decode prog_15_method_12_code 12 = .ok (.arraylength, 1) := by decide +kernel
theorem d1_13 : decode prog_15_method_12_code 13 = .ok (.if_icmp .ge 34, 3) := by decide +kernel
theorem d1_16 : decode prog_15_method_12_code 16 = .ok (.aload_n 1, 1) := by decide +kernel
theorem d1_17 : decode prog_15_method_12_code 17 = .ok (.iload_n 2, 1) := by decide +kernel
theorem d1_18 : decode prog_15_method_12_code 18 = .ok (.baload, 1) := by decide +kernel
theorem d1_19 : decode prog_15_method_12_code 19 = .ok (.bipush 65, 2) := by decide +kernel
theorem d1_21 : decode prog_15_method_12_code 21 = .ok (.if_icmp .lt 20, 3) := by decide +kernel
theorem d1_41 : decode prog_15_method_12_code 41 = .ok (.iinc 2 1, 3) := by decide +kernel
theorem d1_44 : decode prog_15_method_12_code 44 = .ok (.goto (-34), 3) := by decide +kernel
theorem d1_24 : decode prog_15_method_12_code 24 = .ok (.aload_n 1, 1) := by decide +kernel
theorem d1_25 : decode prog_15_method_12_code 25 = .ok (.iload_n 2, 1) := by decide +kernel
theorem d1_26 : decode prog_15_method_12_code 26 = .ok (.baload, 1) := by decide +kernel
theorem d1_27 : decode prog_15_method_12_code 27 = .ok (.bipush 90, 2) := by decide +kernel
theorem d1_29 : decode prog_15_method_12_code 29 = .ok (.if_icmp .gt 12, 3) := by decide +kernel
theorem d1_32 : decode prog_15_method_12_code 32 = .ok (.aload_n 1, 1) := by decide +kernel
theorem d1_33 : decode prog_15_method_12_code 33 = .ok (.iload_n 2, 1) := by decide +kernel
theorem d1_34 : decode prog_15_method_12_code 34 = .ok (.dup2, 1) := by decide +kernel
theorem d1_35 : decode prog_15_method_12_code 35 = .ok (.baload, 1) := by decide +kernel
theorem d1_36 : decode prog_15_method_12_code 36 = .ok (.bipush 32, 2) := by decide +kernel
theorem d1_38 : decode prog_15_method_12_code 38 = .ok (.iadd, 1) := by decide +kernel
theorem d1_39 : decode prog_15_method_12_code 39 = .ok (.i2b, 1) := by decide +kernel
theorem d1_40 : decode prog_15_method_12_code 40 = .ok (.bastore, 1) := by decide +kernel
set_option maxRecDepth 65536 in
set_option maxHeartbeats 40000000 in
theorem own_turn {p : Program} {l : Launch} {e : Env} {R : Room} {s : State} {m : MethodId} {args : Array Value} {below : List Frame} {meth : Method} {c : Code} {T0 : State} {locs : List Loc} {cells slots : Nat} {Z : State} {a0 : Array Value} {h0 : Heap} {n0 : Nat} (r0 b : Addr) (i z : Int32) (kc : ClassId) (g : Nat → Int32) (n : Nat)
    (X0 : Stand p l e R s m args below meth c T0 locs cells slots) (hx : p.tables.exec = Jvm.exec) (hZ : Z.Warmed39 s.vm) (hw : ∀ d ∈ tables_1, d.before a0 Z = true) (hby : c.code = prog_15_method_12_code) (hml : c.maxLocals = 3) (hown : s.vm.findClass "com/example/ereikoussa/ereikoussa/dns/DnsName" = some m.cls) (e0 : T0.heap = h0) (Z0 : n0 ≤ h0.size) (N0 : Fr n0 locs) (V_b : Arv Z h0 b kc .byte z (own_vl g n) (.int (0 : Int32))) (g_b : n0 ≤ b) (hzn : z.toNatClampNeg = n) (hi0 : ¬ i < 0) (hiz : i < z) :
    ∃ (T' : State) (h' : Heap) (Ls : List Loc), Stand p l e R s m args below meth c T' Ls cells slots ∧ T'.heap = h' ∧ Fr n0 Ls ∧ Keep h0 h' [b] ∧ Arv Z h' b kc .byte z (own_vl (own_up g i.toNatClampNeg (own_lowb (g i.toNatClampNeg))) n) (.int (0 : Int32)) ∧ ∀ t, Steps p.tables e below (T'.setTop (mkF m 10 #[.val (.ref r0), .val (.ref b), .val (.int (i + (1 : Int32)))] [])) t → Steps p.tables e below (T0.setTop (mkF m 10 #[.val (.ref r0), .val (.ref b), .val (.int i)] [])) t := by
  have pre0 : ∀ t, Steps p.tables e below (T0.setTop (mkF m 10 #[rv r0, rv b, iv i] [])) t → Steps p.tables e below (T0.setTop (mkF m 10 #[rv r0, rv b, iv i] [])) t := fun _ k => k
  obtain ⟨cl1, Ar1, -, S1, M1, -, -⟩ := id V_b
  have pre3 : ∀ t, Steps p.tables e below (T0.setTop (mkF m 13 #[rv r0, rv b, iv i] [(.int z), (.int i)])) t → Steps p.tables e below (T0.setTop (mkF m 10 #[rv r0, rv b, iv i] [])) t := by
    intro t kt
    refine pre0 _ ?_
    show Steps p.tables e below (T0.setTop (mkF m 10 #[rv r0, rv b, iv i] [])) _
    refine XS.iloadN X0.here hx rfl (hb hby d1_10) rfl ?_
    show Steps p.tables e below (T0.setTop (mkF m 11 #[rv r0, rv b, iv i] [(.int i)])) _
    refine XS.aloadN X0.here hx rfl (hb hby d1_11) rfl rfl ?_
    show Steps p.tables e below (T0.setTop (mkF m 12 #[rv r0, rv b, iv i] [(.ref b), (.int i)])) _
    refine X0.arraylength hx (by rw [e0]; exact Ar1.1) (State.isArrayOf_alike hZ.alike Ar1.2.1) (g := (mkF m 12 #[rv r0, rv b, iv i] [(.ref b), (.int i)])) rfl rfl (hb hby d1_12) _ ?_
    rw [len_of S1 M1]
    exact kt
  have hc13_2 : i < z := hiz
  obtain ⟨cl4, Ar4, q4, S4, M4, H4, G4⟩ := id V_b
  have hin4 : ¬ (i < 0 ∨ cl4.slots.size ≤ (i).toNatClampNeg) := inb_of S4 ⟨hi0, hiz⟩
  have hat4 : cl4.slots[(i).toNatClampNeg]? = some (.int (g i.toNatClampNeg)) := H4.at hin4 (own_vl_get g n _ _ (own_jn hi0 hiz hzn))
  have pre5 : ∀ t, Steps p.tables e below (T0.setTop (mkF m 21 #[rv r0, rv b, iv i] [(.int (65 : Int32)), (.int (g i.toNatClampNeg))])) t → Steps p.tables e below (T0.setTop (mkF m 10 #[rv r0, rv b, iv i] [])) t := by
    intro t kt
    refine pre3 _ ?_
    show Steps p.tables e below (T0.setTop (mkF m 13 #[rv r0, rv b, iv i] [(.int z), (.int i)])) _
    refine XS.icmpNo X0.here hx rfl (hb hby d1_13) rfl (tlt hc13_2).2.1 ?_
    show Steps p.tables e below (T0.setTop (mkF m 16 #[rv r0, rv b, iv i] [])) _
    refine XS.aloadN X0.here hx rfl (hb hby d1_16) rfl rfl ?_
    show Steps p.tables e below (T0.setTop (mkF m 17 #[rv r0, rv b, iv i] [(.ref b)])) _
    refine XS.iloadN X0.here hx rfl (hb hby d1_17) rfl ?_
    show Steps p.tables e below (T0.setTop (mkF m 18 #[rv r0, rv b, iv i] [(.int i), (.ref b)])) _
    refine X0.baloadBytes hx (j := i) (v := (.int (g i.toNatClampNeg))) (by rw [e0]; exact Ar4.1) (State.isArrayOf_alike hZ.alike Ar4.2.1) Ar4.2.2 hin4 hat4 (g := (mkF m 18 #[rv r0, rv b, iv i] [(.int i), (.ref b)])) rfl rfl (hb hby d1_18) _ ?_
    show Steps p.tables e below (T0.setTop (mkF m 19 #[rv r0, rv b, iv i] [(.int (g i.toNatClampNeg))])) _
    refine XS.bipush X0.here hx rfl (hb hby d1_19) ?_
    exact kt
  by_cases hc21 : (g i.toNatClampNeg) < (65 : Int32)
  · have pre6 : ∀ t, Steps p.tables e below (T0.setTop (mkF m 10 #[rv r0, rv b, iv (i + (1 : Int32))] [])) t → Steps p.tables e below (T0.setTop (mkF m 10 #[rv r0, rv b, iv i] [])) t := by
      intro t kt
      refine pre5 _ ?_
      show Steps p.tables e below (T0.setTop (mkF m 21 #[rv r0, rv b, iv i] [(.int (65 : Int32)), (.int (g i.toNatClampNeg))])) _
      refine XS.icmpYes X0.here hx rfl (pc0 := 21) (pc' := 41) rfl (hb hby d1_21) rfl (tlt hc21).1 (by decide) (by decide) ?_
      show Steps p.tables e below (T0.setTop (mkF m 41 #[rv r0, rv b, iv i] [])) _
      refine XS.iinc X0.here hx rfl (hb hby d1_41) rfl (l' := #[rv r0, rv b, iv (i + (1 : Int32))]) rfl ?_
      show Steps p.tables e below (T0.setTop (mkF m 44 #[rv r0, rv b, iv (i + (1 : Int32))] [])) _
      refine XS.goto X0.here hx rfl (pc0 := 44) (pc' := 10) rfl (hb hby d1_44) (by decide) (by decide) ?_
      exact kt
    have ev : (own_vl g n) = (own_vl (own_up g i.toNatClampNeg (own_lowb (g i.toNatClampNeg))) n) := own_vl_cong _ _ _ (fun k _ => by
      simp only [own_up]
      rw [show own_lowb (g i.toNatClampNeg) = (g i.toNatClampNeg) from ((if_pos hc21).trans rfl)]
      by_cases c : k = i.toNatClampNeg
      · rw [if_pos c, c]
      · rw [if_neg c]
      )
    exact ⟨T0, h0, _, X0, e0, N0, (Keep.refl h0 [b]), ev ▸ V_b, pre6⟩
  · obtain ⟨cl7, Ar7, q7, S7, M7, H7, G7⟩ := id V_b
    have hin7 : ¬ (i < 0 ∨ cl7.slots.size ≤ (i).toNatClampNeg) := inb_of S7 ⟨hi0, hiz⟩
    have hat7 : cl7.slots[(i).toNatClampNeg]? = some (.int (g i.toNatClampNeg)) := H7.at hin7 (own_vl_get g n _ _ (own_jn hi0 hiz hzn))
    have pre8 : ∀ t, Steps p.tables e below (T0.setTop (mkF m 29 #[rv r0, rv b, iv i] [(.int (90 : Int32)), (.int (g i.toNatClampNeg))])) t → Steps p.tables e below (T0.setTop (mkF m 10 #[rv r0, rv b, iv i] [])) t := by
      intro t kt
      refine pre5 _ ?_
      show Steps p.tables e below (T0.setTop (mkF m 21 #[rv r0, rv b, iv i] [(.int (65 : Int32)), (.int (g i.toNatClampNeg))])) _
      refine XS.icmpNo X0.here hx rfl (hb hby d1_21) rfl (flt hc21).1 ?_
      show Steps p.tables e below (T0.setTop (mkF m 24 #[rv r0, rv b, iv i] [])) _
      refine XS.aloadN X0.here hx rfl (hb hby d1_24) rfl rfl ?_
      show Steps p.tables e below (T0.setTop (mkF m 25 #[rv r0, rv b, iv i] [(.ref b)])) _
      refine XS.iloadN X0.here hx rfl (hb hby d1_25) rfl ?_
      show Steps p.tables e below (T0.setTop (mkF m 26 #[rv r0, rv b, iv i] [(.int i), (.ref b)])) _
      refine X0.baloadBytes hx (j := i) (v := (.int (g i.toNatClampNeg))) (by rw [e0]; exact Ar7.1) (State.isArrayOf_alike hZ.alike Ar7.2.1) Ar7.2.2 hin7 hat7 (g := (mkF m 26 #[rv r0, rv b, iv i] [(.int i), (.ref b)])) rfl rfl (hb hby d1_26) _ ?_
      show Steps p.tables e below (T0.setTop (mkF m 27 #[rv r0, rv b, iv i] [(.int (g i.toNatClampNeg))])) _
      refine XS.bipush X0.here hx rfl (hb hby d1_27) ?_
      exact kt
    by_cases hc29 : (90 : Int32) < (g i.toNatClampNeg)
    · have pre9 : ∀ t, Steps p.tables e below (T0.setTop (mkF m 10 #[rv r0, rv b, iv (i + (1 : Int32))] [])) t → Steps p.tables e below (T0.setTop (mkF m 10 #[rv r0, rv b, iv i] [])) t := by
        intro t kt
        refine pre8 _ ?_
        show Steps p.tables e below (T0.setTop (mkF m 29 #[rv r0, rv b, iv i] [(.int (90 : Int32)), (.int (g i.toNatClampNeg))])) _
        refine XS.icmpYes X0.here hx rfl (pc0 := 29) (pc' := 41) rfl (hb hby d1_29) rfl (tlt hc29).2.2.1 (by decide) (by decide) ?_
        show Steps p.tables e below (T0.setTop (mkF m 41 #[rv r0, rv b, iv i] [])) _
        refine XS.iinc X0.here hx rfl (hb hby d1_41) rfl (l' := #[rv r0, rv b, iv (i + (1 : Int32))]) rfl ?_
        show Steps p.tables e below (T0.setTop (mkF m 44 #[rv r0, rv b, iv (i + (1 : Int32))] [])) _
        refine XS.goto X0.here hx rfl (pc0 := 44) (pc' := 10) rfl (hb hby d1_44) (by decide) (by decide) ?_
        exact kt
      have ev : (own_vl g n) = (own_vl (own_up g i.toNatClampNeg (own_lowb (g i.toNatClampNeg))) n) := own_vl_cong _ _ _ (fun k _ => by
        simp only [own_up]
        rw [show own_lowb (g i.toNatClampNeg) = (g i.toNatClampNeg) from ((if_neg hc21).trans ((if_pos hc29).trans rfl))]
        by_cases c : k = i.toNatClampNeg
        · rw [if_pos c, c]
        · rw [if_neg c]
        )
      exact ⟨T0, h0, _, X0, e0, N0, (Keep.refl h0 [b]), ev ▸ V_b, pre9⟩
    · obtain ⟨cl10, Ar10, q10, S10, M10, H10, G10⟩ := id V_b
      have hin10 : ¬ (i < 0 ∨ cl10.slots.size ≤ (i).toNatClampNeg) := inb_of S10 ⟨hi0, hiz⟩
      have hat10 : cl10.slots[(i).toNatClampNeg]? = some (.int (g i.toNatClampNeg)) := H10.at hin10 (own_vl_get g n _ _ (own_jn hi0 hiz hzn))
      have pre11 : ∀ t, Steps p.tables e below (T0.setTop (mkF m 40 #[rv r0, rv b, iv i] [(.int (((g i.toNatClampNeg) + (32 : Int32)).toInt8.toInt32)), (.int i), (.ref b)])) t → Steps p.tables e below (T0.setTop (mkF m 10 #[rv r0, rv b, iv i] [])) t := by
        intro t kt
        refine pre8 _ ?_
        show Steps p.tables e below (T0.setTop (mkF m 29 #[rv r0, rv b, iv i] [(.int (90 : Int32)), (.int (g i.toNatClampNeg))])) _
        refine XS.icmpNo X0.here hx rfl (hb hby d1_29) rfl (flt hc29).2.2.1 ?_
        show Steps p.tables e below (T0.setTop (mkF m 32 #[rv r0, rv b, iv i] [])) _
        refine XS.aloadN X0.here hx rfl (hb hby d1_32) rfl rfl ?_
        show Steps p.tables e below (T0.setTop (mkF m 33 #[rv r0, rv b, iv i] [(.ref b)])) _
        refine XS.iloadN X0.here hx rfl (hb hby d1_33) rfl ?_
        show Steps p.tables e below (T0.setTop (mkF m 34 #[rv r0, rv b, iv i] [(.int i), (.ref b)])) _
        refine XT.dup2 X0.here hx rfl (hb hby d1_34) rfl rfl rfl ?_
        show Steps p.tables e below (T0.setTop (mkF m 35 #[rv r0, rv b, iv i] [(.int i), (.ref b), (.int i), (.ref b)])) _
        refine X0.baloadBytes hx (j := i) (v := (.int (g i.toNatClampNeg))) (by rw [e0]; exact Ar10.1) (State.isArrayOf_alike hZ.alike Ar10.2.1) Ar10.2.2 hin10 hat10 (g := (mkF m 35 #[rv r0, rv b, iv i] [(.int i), (.ref b), (.int i), (.ref b)])) rfl rfl (hb hby d1_35) _ ?_
        show Steps p.tables e below (T0.setTop (mkF m 36 #[rv r0, rv b, iv i] [(.int (g i.toNatClampNeg)), (.int i), (.ref b)])) _
        refine XS.bipush X0.here hx rfl (hb hby d1_36) ?_
        show Steps p.tables e below (T0.setTop (mkF m 38 #[rv r0, rv b, iv i] [(.int (32 : Int32)), (.int (g i.toNatClampNeg)), (.int i), (.ref b)])) _
        refine XS.iadd X0.here hx rfl (hb hby d1_38) rfl ?_
        show Steps p.tables e below (T0.setTop (mkF m 39 #[rv r0, rv b, iv i] [(.int ((g i.toNatClampNeg) + (32 : Int32))), (.int i), (.ref b)])) _
        refine XS.i2b X0.here hx rfl (hb hby d1_39) rfl ?_
        exact kt
      obtain ⟨cl12, Ar12, q12, S12, M12, H12, G12⟩ := id V_b
      have hin12 : ¬ (i < 0 ∨ cl12.slots.size ≤ (i).toNatClampNeg) := inb_of S12 ⟨hi0, hiz⟩
      obtain ⟨T12, h12, X12, e12, W12, st12⟩ := stB X0 hx hZ e0 Ar12 (j := i) hin12 (g := (mkF m 40 #[rv r0, rv b, iv i] [(.int (((g i.toNatClampNeg) + (32 : Int32)).toInt8.toInt32)), (.int i), (.ref b)])) rfl rfl (hb hby d1_40)
      have nn12 : nar .byte (((g i.toNatClampNeg) + (32 : Int32)).toInt8.toInt32) = (((g i.toNatClampNeg) + (32 : Int32)).toInt8.toInt32) := (own_nb _)
      rw [nn12] at W12
      have V12 : Arv Z h12 b kc .byte z (own_vl (own_up g i.toNatClampNeg (((g i.toNatClampNeg) + (32 : Int32)).toInt8.toInt32)) n) (.int (0 : Int32)) := (own_vl_set g n _ _) ▸ (Arv.set Ar12 q12 S12 M12 H12 G12 (own_fb nn12) W12 i.toNatClampNeg rfl (by rw [own_vl_len]; exact (own_jn hi0 hiz hzn)))
      have K12 : Keep h0 h12 [b] := (Keep.refl h0 [b]).wr W12 (Or.inl (List.mem_of_getElem? (i := 0) rfl))
      have N12 := Fr.snoc X12 N0 g_b
      have pre13 : ∀ t, Steps p.tables e below (T12.setTop (mkF m 10 #[rv r0, rv b, iv (i + (1 : Int32))] [])) t → Steps p.tables e below (T0.setTop (mkF m 10 #[rv r0, rv b, iv i] [])) t := by
        intro t kt
        refine pre11 _ ?_
        show Steps p.tables e below (T0.setTop (mkF m 40 #[rv r0, rv b, iv i] [(.int (((g i.toNatClampNeg) + (32 : Int32)).toInt8.toInt32)), (.int i), (.ref b)])) _
        refine st12 _ ?_
        show Steps p.tables e below (T12.setTop (mkF m 41 #[rv r0, rv b, iv i] [])) _
        refine XS.iinc X12.here hx rfl (hb hby d1_41) rfl (l' := #[rv r0, rv b, iv (i + (1 : Int32))]) rfl ?_
        show Steps p.tables e below (T12.setTop (mkF m 44 #[rv r0, rv b, iv (i + (1 : Int32))] [])) _
        refine XS.goto X12.here hx rfl (pc0 := 44) (pc' := 10) rfl (hb hby d1_44) (by decide) (by decide) ?_
        exact kt
      have ev : (own_vl (own_up g i.toNatClampNeg (((g i.toNatClampNeg) + (32 : Int32)).toInt8.toInt32)) n) = (own_vl (own_up g i.toNatClampNeg (own_lowb (g i.toNatClampNeg))) n) := own_vl_cong _ _ _ (fun k _ => by
        simp only [own_up]
        rw [show own_lowb (g i.toNatClampNeg) = (((g i.toNatClampNeg) + (32 : Int32)).toInt8.toInt32) from ((if_neg hc21).trans ((if_neg hc29).trans rfl))]
        )
      exact ⟨T12, h12, _, X12, e12, N12, K12, ev ▸ V12, pre13⟩

set_option maxRecDepth 65536 in
set_option maxHeartbeats 40000000 in
theorem own_leave {p : Program} {l : Launch} {e : Env} {R : Room} {s : State} {m : MethodId} {args : Array Value} {below : List Frame} {meth : Method} {c : Code} {T0 : State} {locs : List Loc} {cells slots : Nat} {Z : State} {a0 : Array Value} {h0 : Heap} {n0 : Nat} (r0 b : Addr) (i z : Int32) (kc : ClassId) (g : Nat → Int32) (n : Nat)
    (X0 : Stand p l e R s m args below meth c T0 locs cells slots) (hx : p.tables.exec = Jvm.exec) (hZ : Z.Warmed39 s.vm) (hw : ∀ d ∈ tables_1, d.before a0 Z = true) (hby : c.code = prog_15_method_12_code) (hml : c.maxLocals = 3) (hown : s.vm.findClass "com/example/ereikoussa/ereikoussa/dns/DnsName" = some m.cls) (e0 : T0.heap = h0) (Z0 : n0 ≤ h0.size) (N0 : Fr n0 locs) (V_b : Arv Z h0 b kc .byte z (own_vl g n) (.int (0 : Int32))) (hiz : ¬ (i < z)) :
    ∀ t, Steps p.tables e below (T0.setTop (mkF m 47 #[.val (.ref r0), .val (.ref b), .val (.int i)] [])) t → Steps p.tables e below (T0.setTop (mkF m 10 #[.val (.ref r0), .val (.ref b), .val (.int i)] [])) t := by
  have pre0 : ∀ t, Steps p.tables e below (T0.setTop (mkF m 10 #[rv r0, rv b, iv i] [])) t → Steps p.tables e below (T0.setTop (mkF m 10 #[rv r0, rv b, iv i] [])) t := fun _ k => k
  obtain ⟨cl1, Ar1, -, S1, M1, -, -⟩ := id V_b
  have pre3 : ∀ t, Steps p.tables e below (T0.setTop (mkF m 13 #[rv r0, rv b, iv i] [(.int z), (.int i)])) t → Steps p.tables e below (T0.setTop (mkF m 10 #[rv r0, rv b, iv i] [])) t := by
    intro t kt
    refine pre0 _ ?_
    show Steps p.tables e below (T0.setTop (mkF m 10 #[rv r0, rv b, iv i] [])) _
    refine XS.iloadN X0.here hx rfl (hb hby d1_10) rfl ?_
    show Steps p.tables e below (T0.setTop (mkF m 11 #[rv r0, rv b, iv i] [(.int i)])) _
    refine XS.aloadN X0.here hx rfl (hb hby d1_11) rfl rfl ?_
    show Steps p.tables e below (T0.setTop (mkF m 12 #[rv r0, rv b, iv i] [(.ref b), (.int i)])) _
    refine X0.arraylength hx (by rw [e0]; exact Ar1.1) (State.isArrayOf_alike hZ.alike Ar1.2.1) (g := (mkF m 12 #[rv r0, rv b, iv i] [(.ref b), (.int i)])) rfl rfl (hb hby d1_12) _ ?_
    rw [len_of S1 M1]
    exact kt
  have hc13_2 : ¬ (i < z) := hiz
  have pre4 : ∀ t, Steps p.tables e below (T0.setTop (mkF m 47 #[rv r0, rv b, iv i] [])) t → Steps p.tables e below (T0.setTop (mkF m 10 #[rv r0, rv b, iv i] [])) t := by
    intro t kt
    refine pre3 _ ?_
    show Steps p.tables e below (T0.setTop (mkF m 13 #[rv r0, rv b, iv i] [(.int z), (.int i)])) _
    refine XS.icmpYes X0.here hx rfl (pc0 := 13) (pc' := 47) rfl (hb hby d1_13) rfl (flt hc13_2).2.1 (by decide) (by decide) ?_
    exact kt
  exact pre4
theorem own_loop {p : Program} {l : Launch} {e : Env} {R : Room} {s : State} {m : MethodId} {args : Array Value} {below : List Frame} {meth : Method} {c : Code} {cells slots : Nat} {Z : State} {a0 : Array Value} (r0 b : Addr) (kc : ClassId) (f : Nat → Int32) (n : Nat) (hn : n ≤ 4) (n0 : Nat) (g_b : n0 ≤ b) (hx : p.tables.exec = Jvm.exec) (hZ : Z.Warmed39 s.vm) (hw : ∀ d ∈ tables_1, d.before a0 Z = true) (hby : c.code = prog_15_method_12_code) (hml : c.maxLocals = 3) (hown : s.vm.findClass "com/example/ereikoussa/ereikoussa/dns/DnsName" = some m.cls) :
    ∀ (k i : Nat) (T0 : State) (h0 : Heap) (locs : List Loc), i + k = n → Stand p l e R s m args below meth c T0 locs cells slots → T0.heap = h0 → Fr n0 locs → n0 ≤ h0.size → Arv Z h0 b kc .byte (Int32.ofNat n) (own_vl (own_G f i) n) (.int (0 : Int32)) →
      ∃ (T' : State) (h' : Heap) (locs' : List Loc), Stand p l e R s m args below meth c T' locs' cells slots ∧ T'.heap = h' ∧ Fr n0 locs' ∧ Keep h0 h' [b] ∧ Arv Z h' b kc .byte (Int32.ofNat n) (own_vl (fun k => own_lowb (f k)) n) (.int (0 : Int32)) ∧
        ∀ t, Steps p.tables e below (T'.setTop (mkF m 47 #[.val (.ref r0), .val (.ref b), .val (.int (Int32.ofNat n))] [])) t → Steps p.tables e below (T0.setTop (mkF m 10 #[.val (.ref r0), .val (.ref b), .val (.int (Int32.ofNat i))] [])) t := by
  intro k
  induction k with
  | zero =>
    intro i T0 h0 locs hi X0 e0 N Z0 V
    have hi' : i = n := by omega
    subst hi'
    have st1 := own_leave r0 b (Int32.ofNat i) (Int32.ofNat i) kc (own_G f i) i X0 hx hZ hw hby hml hown e0 Z0 N V Int32.lt_irrefl
    exact ⟨T0, h0, locs, X0, e0, N, Keep.refl _ _, own_G_all f i ▸ V, st1⟩
  | succ k ih =>
    intro i T0 h0 locs hi X0 e0 N Z0 V
    obtain ⟨T1, h1, L1, X1, e1, N1, K1, V1, st1⟩ := own_turn r0 b (Int32.ofNat i) (Int32.ofNat n) kc (own_G f i) n X0 hx hZ hw hby hml hown e0 Z0 N V g_b (own_tn n hn) (own_nn i (by omega)) (own_lt (by omega) hn)
    rw [own_tn i (by omega), own_G_next] at V1
    rw [own_succ i (by omega)] at st1
    obtain ⟨T2, h2, L2, X2, e2, N2, K2, V2, st2⟩ := ih (i + 1) T1 h1 L1 (by omega) X1 e1 N1 (Nat.le_trans Z0 K1.1) V1
    exact ⟨T2, h2, L2, X2, e2, N2, K1.trans K2 (fun x hx => Or.inl hx), V2, fun t k => st1 t (st2 t k)⟩
theorem pn1 : plainName "com/example/ereikoussa/ereikoussa/dns/DnsName" = true := by first | (simp [plainName, overriddenIn]; done) | decide +kernel
theorem d1_0 : decode prog_15_method_12_code 0 = .ok (.aload_n 0, 1) := by decide +kernel
theorem d1_1 : decode prog_15_method_12_code 1 = .ok (.invokevirtual 43, 3) := by decide +kernel
theorem d1_4 : decode prog_15_method_12_code 4 = .ok (.checkcast 32, 3) := by decide +kernel
theorem d1_7 : decode prog_15_method_12_code 7 = .ok (.astore_n 1, 1) := by decide +kernel
theorem d1_8 : decode prog_15_method_12_code 8 = .ok (.iconst 0, 1) := by decide +kernel
theorem d1_9 : decode prog_15_method_12_code 9 = .ok (.istore_n 2, 1) := by decide +kernel
theorem d1_47 : decode prog_15_method_12_code 47 = .ok (.aload_n 1, 1) := by decide +kernel
theorem d1_48 : decode prog_15_method_12_code 48 = .ok (.areturn, 1) := by decide +kernel
theorem ef_1 (m : MethodId) (x0 : Addr) : entryFrame m #[(.ref x0)] 3 = mkF m 0 #[.val (.ref x0), .unset, .unset] [] := by first | (simp [entryFrame, mkF, argsToLocals, Value.category]; done) | rfl
def Q1 (Z : State) (r0 : Addr) (kc : ClassId) (f : Nat → Int32) (n : Nat) (h0 : Heap) (n0 : Nat) (v : Option Value) (h : Heap) (L : List Loc) : Prop := ∃ b, v = some (.ref b) ∧ Fr n0 L ∧ Keep h0 h [] ∧ Arv Z h b kc .byte (Int32.ofNat n) (own_vl (fun k => own_lowb (f k)) n) (.int (0 : Int32))
set_option maxRecDepth 65536 in
set_option maxHeartbeats 40000000 in
theorem rm1 (l : Launch) (Z : State) (a0 : Array Value) (hw : ∀ d ∈ tables_1, d.before a0 Z = true) (ws : List Jvm.Cond) (r0 : Addr) (kc : ClassId) (f : Nat → Int32) (n : Nat) (h0 : Heap) (n0 : Nat) (Z0 : n0 ≤ h0.size) (hn4 : n ≤ 4) (V_r0 : Arv Z h0 r0 kc .byte (Int32.ofNat n) (own_vl f n) (.int (0 : Int32))) (E_r0 : Exa Z h0 r0 "[B") :
    MetFree l (⟨"com/example/ereikoussa/ereikoussa/dns/DnsName", "lowerCase", "([B)[B"⟩ : MethodName) (head1 (Jvm.Cond.code (⟨"com/example/ereikoussa/ereikoussa/dns/DnsName", "lowerCase", "([B)[B"⟩ : MethodName) prog_15_method_12_code 3 (some (.array .byte)) :: ws) ({ frames := 1, cells := 1, slots := 4, locals := 14 } : Room)) (fun a U => a = #[(.ref r0)] ∧ Z.Warmed39 U.vm ∧ U.heap = h0) (fun _ _ _ _ _ => True) (fun _ U o U' => ∃ v L, o = .returned v ∧ Q1 Z r0 kc f n h0 n0 v U'.heap L ∧ FrameEnd U o U' L ({ frames := 1, cells := 1, slots := 4, locals := 14 } : Room).cells ({ frames := 1, cells := 1, slots := 4, locals := 14 } : Room).slots) := by
  refine MetFree.of_bodySF (plainFor_of_name pn1) hisR ?_
  intro p e s m args below meth c s₁ Bd hml0 hP hK
  obtain ⟨rfl, hZ, hh⟩ := hP
  have hx := Bd.exec
  have hby := Bd.bytes
  have hml : c.maxLocals = 3 := hml0
  have hown : s.vm.findClass "com/example/ereikoussa/ereikoussa/dns/DnsName" = some m.cls := findClass_of_methodNamed Bd.named
  have hnm := (name_of_methodNamed Bd.named Bd.method).1
  have X0 : Stand p l e ({ frames := 1, cells := 1, slots := 4, locals := 14 } : Room) s m #[(.ref r0)] below meth c s₁ [] 0 0 := Stand.of_body Bd
  have e0 : s₁.heap = h0 := by rw [← hh, Bd.state]; rfl
  have N0 := Fr.nil n0
  have pre0 : ∀ t, Steps p.tables e below (s₁.setTop (mkF m 0 #[rv r0, .unset, .unset] [])) t → Steps p.tables e below (s₁.setTop (entryFrame m #[(.ref r0)] 3)) t := fun t k => castTop (ef_1 m r0) k
  have pre1 : ∀ t, Steps p.tables e below (s₁.setTop (mkF m 1 #[rv r0, .unset, .unset] [(.ref r0)])) t → Steps p.tables e below (s₁.setTop (entryFrame m #[(.ref r0)] 3)) t := by
    intro t kt
    refine pre0 _ ?_
    show Steps p.tables e below (s₁.setTop (mkF m 0 #[rv r0, .unset, .unset] [])) _
    refine XS.aloadN X0.here hx rfl (hb hby d1_0) rfl rfl ?_
    exact kt
  obtain ⟨T3, h3, X3, e3, E3, A3, Ex3, st3⟩ := cloneH X0 hx hZ hown (hw _ (List.mem_of_getElem? (i := 5) rfl)) (hw _ (List.mem_of_getElem? (i := 6) rfl)) (hw _ (List.mem_of_getElem? (i := 10) rfl)) (hw _ (List.mem_of_getElem? (i := 8) rfl)) (hw _ (List.mem_of_getElem? (i := 9) rfl)) (hw _ (List.mem_of_getElem? (i := 11) rfl)) e0 (Arv.arh V_r0) E_r0 (g := (mkF m 1 #[rv r0, .unset, .unset] [(.ref r0)])) rfl (by rw [hml]; rfl) rfl (hb hby d1_1) (by decide) (W := 0) (cap := 4) (by show 2 * 0 + _ ≤ _; exact Nat.le_of_eq rfl) (by decide) (by rw [own_tn n hn4]; exact hn4) (by decide) (by decide)
  obtain ⟨b3, g3⟩ : ∃ z, z = h0.size := ⟨_, rfl⟩
  rw [← g3] at A3 Ex3 st3
  have g_b3 : n0 ≤ b3 := Nat.le_trans (Nat.le_trans Z0 (Keep.refl h0 []).1) (Nat.le_of_eq g3.symm)
  have sz_b3 : h0.size ≤ b3 := Nat.le_trans (Keep.refl h0 []).1 (Nat.le_of_eq g3.symm)
  have V_b3 : Arv Z h3 b3 kc .byte (Int32.ofNat n) (own_vl f n) (.int (0 : Int32)) := A3
  have K3 : Keep h0 h3 [] := (Keep.refl h0 []).ext E3
  have pre4 : ∀ t, Steps p.tables e below (T3.setTop (mkF m 4 #[rv r0, .unset, .unset] [(.ref b3)])) t → Steps p.tables e below (s₁.setTop (entryFrame m #[(.ref r0)] 3)) t := by
    intro t kt
    refine pre1 _ ?_
    show Steps p.tables e below (s₁.setTop (mkF m 1 #[rv r0, .unset, .unset] [(.ref r0)])) _
    refine st3 _ ?_
    exact kt
  obtain ⟨T5, X5, e5, st5⟩ := castY X3 hx hZ hown (hw _ (List.mem_of_getElem? (i := 12) rfl)) e3 (Ins.self Ex3) (g := (mkF m 4 #[rv r0, .unset, .unset] [(.ref b3)])) rfl rfl (hb hby d1_4)
  have pre6 : ∀ t, Steps p.tables e below (T5.setTop (mkF m 10 #[rv r0, rv b3, iv (0 : Int32)] [])) t → Steps p.tables e below (s₁.setTop (entryFrame m #[(.ref r0)] 3)) t := by
    intro t kt
    refine pre4 _ ?_
    show Steps p.tables e below (T3.setTop (mkF m 4 #[rv r0, .unset, .unset] [(.ref b3)])) _
    refine st5 _ ?_
    show Steps p.tables e below (T5.setTop (mkF m 7 #[rv r0, .unset, .unset] [(.ref b3)])) _
    refine XS.astoreN X5.here hx rfl (hb hby d1_7) rfl rfl (l' := #[rv r0, rv b3, .unset]) rfl ?_
    show Steps p.tables e below (T5.setTop (mkF m 8 #[rv r0, rv b3, .unset] [])) _
    refine XS.iconst X5.here hx rfl (hb hby d1_8) ?_
    show Steps p.tables e below (T5.setTop (mkF m 9 #[rv r0, rv b3, .unset] [(.int (0 : Int32))])) _
    refine XS.istoreN X5.here hx rfl (hb hby d1_9) rfl (l' := #[rv r0, rv b3, iv (0 : Int32)]) rfl ?_
    exact kt
  have ev0 : own_vl f n = own_vl (own_G f 0) n := own_vl_cong _ _ _ (fun k _ => by simp only [own_G]; rw [if_neg (by omega)])
  obtain ⟨T7, h7, L7, X7, e7, N7, Kl7, V7, st7⟩ := own_loop r0 b3 kc f n hn4 n0 g_b3 hx hZ hw hby hml hown n 0 T5 h3 _ (by omega) X5 e5 N0 (Nat.le_trans Z0 K3.1) (ev0 ▸ V_b3)
  have K7 : Keep h0 h7 [] := K3.trans Kl7 (allS (Or.inr sz_b3) all0)
  have pre8 : ∀ t, Steps p.tables e below (T7.setTop (mkF m 48 #[rv r0, rv b3, iv (Int32.ofNat n)] [(.ref b3)])) t → Steps p.tables e below (s₁.setTop (entryFrame m #[(.ref r0)] 3)) t := by
    intro t kt
    refine pre6 _ ?_
    show Steps p.tables e below (T5.setTop (mkF m 10 #[rv r0, rv b3, iv (0 : Int32)] [])) _
    refine st7 _ ?_
    show Steps p.tables e below (T7.setTop (mkF m 47 #[rv r0, rv b3, iv (Int32.ofNat n)] [])) _
    refine XS.aloadN X7.here hx rfl (hb hby d1_47) rfl rfl ?_
    exact kt
  obtain ⟨fs, hr, hrun, hended, hW, hsame⟩ := X7.leave (v := some (.ref b3)) (fun h => by rw [Bd.returns] at h; cases h)
  refine ⟨_, _, pre8 _ ?_, hrun, hended, _, _, rfl, ?_, ⟨_, rfl⟩, hW, hsame.mono (by decide) (by decide)⟩
  · show Steps p.tables e below (T7.setTop (mkF m 48 #[rv r0, rv b3, iv (Int32.ofNat n)] [(.ref b3)])) _
    jvm_step X7.here [X7.here.top, hx, (hb hby d1_48), X7.method', Bd.returns, Value.isRef, FieldType.isReference]
    first | (intro acts; rw [hr _ acts rfl rfl rfl]) | rw [hr _ _ rfl rfl rfl]
    exact Steps.refl _
  · show Q1 Z r0 kc f n h0 n0 _ T7.heap _
    rw [e7]
    exact ⟨b3, rfl, N7, K7, V7⟩
theorem d2_0 : decode method_3_code 0 = .ok (.iload_n 2, 1) := by decide +kernel
theorem d2_1 : decode method_3_code 1 = .ok (.aload_n 1, 1) := by decide +kernel
theorem d2_2 : decode method_3_code 2 = .ok (.arraylength, 1) := by decide +kernel
theorem d2_3 : decode method_3_code 3 = .ok (.if_icmp .lt 5, 3) := by decide +kernel
theorem d2_8 : decode method_3_code 8 = .ok (.aload_n 0, 1) := by decide +kernel
theorem d2_9 : decode method_3_code 9 = .ok (.iload_n 2, 1) := by decide +kernel
theorem d2_10 : decode method_3_code 10 = .ok (.baload, 1) := by decide +kernel
theorem d2_11 : decode method_3_code 11 = .ok (.iload_n 3, 1) := by decide +kernel
theorem pd2 : parseMethodDescriptor "(B)B" = some ⟨[.byte], some .byte⟩ := by decide +kernel
theorem d2_12 : decode method_3_code 12 = .ok (.invokestatic 19, 3) := by decide +kernel
theorem d2_15 : decode method_3_code 15 = .ok (.if_icmp .ne 14, 3) := by decide +kernel
theorem d2_18 : decode method_3_code 18 = .ok (.aload_n 1, 1) := by decide +kernel
theorem d2_19 : decode method_3_code 19 = .ok (.iload_n 2, 1) := by decide +kernel
theorem d2_20 : decode method_3_code 20 = .ok (.baload, 1) := by decide +kernel
theorem d2_21 : decode method_3_code 21 = .ok (.iload_n 3, 1) := by decide +kernel
theorem d2_22 : decode method_3_code 22 = .ok (.if_icmp .ne 7, 3) := by decide +kernel
theorem d2_25 : decode method_3_code 25 = .ok (.iconst 1, 1) := by decide +kernel
theorem d2_26 : decode method_3_code 26 = .ok (.goto 4, 3) := by decide +kernel
theorem d2_30 : decode method_3_code 30 = .ok (.ireturn, 1) := by decide +kernel
theorem d2_6 : decode method_3_code 6 = .ok (.iconst 1, 1) := by decide +kernel
theorem d2_7 : decode method_3_code 7 = .ok (.ireturn, 1) := by decide +kernel
theorem ef_2 (m : MethodId) (x0 : Addr) (x1 : Addr) (x2 : Int32) (x3 : Int32) : entryFrame m #[(.ref x0), (.ref x1), (.int x2), (.int x3)] 4 = mkF m 0 #[.val (.ref x0), .val (.ref x1), .val (.int x2), .val (.int x3)] [] := by first | (simp [entryFrame, mkF, argsToLocals, Value.category]; done) | rfl
def Q2 (Z : State) (r0 : Addr) (r1 : Addr) (p2 : Int32) (p3 : Int32) (k1 : ClassId) (k2 : ClassId) (z : Int32) (vs : List Value) (us : List Value) (d1 : Value) (d2 : Value) (h0 : Heap) (n0 : Nat) (v : Option Value) (h : Heap) (L : List Loc) : Prop := v = some (.int 1) ∧ Fr n0 L ∧ h = h0
set_option maxRecDepth 65536 in
set_option maxHeartbeats 40000000 in
theorem rm2 (l : Launch) (Z : State) (a0 : Array Value) (hw : ∀ d ∈ tables_1, d.before a0 Z = true) (ws : List Jvm.Cond) (r0 : Addr) (r1 : Addr) (p2 : Int32) (p3 : Int32) (k1 : ClassId) (k2 : ClassId) (z : Int32) (vs : List Value) (us : List Value) (d1 : Value) (d2 : Value) (h0 : Heap) (n0 : Nat) (Z0 : n0 ≤ h0.size) (V_r0 : Arv Z h0 r0 k1 .byte z vs d1) (V_r1 : Arv Z h0 r1 k2 .byte z us d2) (hi0 : ¬ p2 < 0) (hval : p2 < z → vs.getD p2.toNatClampNeg d1 = .int (own_lower p3) ∧ us.getD p2.toNatClampNeg d2 = .int p3) :
    MetFree l (⟨"com/example/ereikoussa/ereikoussa/dns/DnsNameLowerCasePinLaw", "at", "([B[BIB)Z"⟩ : MethodName) (head1 (Jvm.Cond.code (⟨"com/example/ereikoussa/ereikoussa/dns/DnsNameLowerCasePinLaw", "at", "([B[BIB)Z"⟩ : MethodName) method_3_code 4 (some .boolean) :: ws) ({ frames := 1, cells := 0, slots := 0, locals := 14 } : Room)) (fun a U => a = #[(.ref r0), (.ref r1), (.int p2), (.int p3)] ∧ Z.Warmed39 U.vm ∧ U.heap = h0) (fun _ _ _ _ _ => True) (fun _ U o U' => ∃ v L, o = .returned v ∧ Q2 Z r0 r1 p2 p3 k1 k2 z vs us d1 d2 h0 n0 v U'.heap L ∧ FrameEnd U o U' L ({ frames := 1, cells := 0, slots := 0, locals := 14 } : Room).cells ({ frames := 1, cells := 0, slots := 0, locals := 14 } : Room).slots) := by
  refine MetFree.of_bodySF (plainFor_of_name pn0) hisR ?_
  intro p e s m args below meth c s₁ Bd hml0 hP hK
  obtain ⟨rfl, hZ, hh⟩ := hP
  have hx := Bd.exec
  have hby := Bd.bytes
  have hml : c.maxLocals = 4 := hml0
  have hown : s.vm.findClass "com/example/ereikoussa/ereikoussa/dns/DnsNameLowerCasePinLaw" = some m.cls := findClass_of_methodNamed Bd.named
  have hnm := (name_of_methodNamed Bd.named Bd.method).1
  have X0 : Stand p l e ({ frames := 1, cells := 0, slots := 0, locals := 14 } : Room) s m #[(.ref r0), (.ref r1), (.int p2), (.int p3)] below meth c s₁ [] 0 0 := Stand.of_body Bd
  have e0 : s₁.heap = h0 := by rw [← hh, Bd.state]; rfl
  have N0 := Fr.nil n0
  have pre0 : ∀ t, Steps p.tables e below (s₁.setTop (mkF m 0 #[rv r0, rv r1, iv p2, iv p3] [])) t → Steps p.tables e below (s₁.setTop (entryFrame m #[(.ref r0), (.ref r1), (.int p2), (.int p3)] 4)) t := fun t k => castTop (ef_2 m r0 r1 p2 p3) k
  obtain ⟨cl1, Ar1, -, S1, M1, -, -⟩ := id V_r1
  have pre2 : ∀ t, Steps p.tables e below (s₁.setTop (mkF m 3 #[rv r0, rv r1, iv p2, iv p3] [(.int z), (.int p2)])) t → Steps p.tables e below (s₁.setTop (entryFrame m #[(.ref r0), (.ref r1), (.int p2), (.int p3)] 4)) t := by
    intro t kt
    refine pre0 _ ?_
    show Steps p.tables e below (s₁.setTop (mkF m 0 #[rv r0, rv r1, iv p2, iv p3] [])) _
    refine XS.iloadN X0.here hx rfl (hb hby d2_0) rfl ?_
    show Steps p.tables e below (s₁.setTop (mkF m 1 #[rv r0, rv r1, iv p2, iv p3] [(.int p2)])) _
    refine XS.aloadN X0.here hx rfl (hb hby d2_1) rfl rfl ?_
    show Steps p.tables e below (s₁.setTop (mkF m 2 #[rv r0, rv r1, iv p2, iv p3] [(.ref r1), (.int p2)])) _
    refine X0.arraylength hx (by rw [e0]; exact Ar1.1) (State.isArrayOf_alike hZ.alike Ar1.2.1) (g := (mkF m 2 #[rv r0, rv r1, iv p2, iv p3] [(.ref r1), (.int p2)])) rfl rfl (hb hby d2_2) _ ?_
    rw [len_of S1 M1]
    exact kt
  by_cases hc3 : p2 < z
  · obtain ⟨cl3, Ar3, q3, S3, M3, H3, G3⟩ := id V_r0
    have hin3 : ¬ (p2 < 0 ∨ cl3.slots.size ≤ (p2).toNatClampNeg) := inb_of S3 ⟨hi0, hc3⟩
    have hat3 : cl3.slots[(p2).toNatClampNeg]? = some (.int (own_lower p3)) := H3.at hin3 (hval hc3).1
    have pre4 : ∀ t, Steps p.tables e below (s₁.setTop (mkF m 12 #[rv r0, rv r1, iv p2, iv p3] [(.int p3), (.int (own_lower p3))])) t → Steps p.tables e below (s₁.setTop (entryFrame m #[(.ref r0), (.ref r1), (.int p2), (.int p3)] 4)) t := by
      intro t kt
      refine pre2 _ ?_
      show Steps p.tables e below (s₁.setTop (mkF m 3 #[rv r0, rv r1, iv p2, iv p3] [(.int z), (.int p2)])) _
      refine XS.icmpYes X0.here hx rfl (pc0 := 3) (pc' := 8) rfl (hb hby d2_3) rfl (tlt hc3).1 (by decide) (by decide) ?_
      show Steps p.tables e below (s₁.setTop (mkF m 8 #[rv r0, rv r1, iv p2, iv p3] [])) _
      refine XS.aloadN X0.here hx rfl (hb hby d2_8) rfl rfl ?_
      show Steps p.tables e below (s₁.setTop (mkF m 9 #[rv r0, rv r1, iv p2, iv p3] [(.ref r0)])) _
      refine XS.iloadN X0.here hx rfl (hb hby d2_9) rfl ?_
      show Steps p.tables e below (s₁.setTop (mkF m 10 #[rv r0, rv r1, iv p2, iv p3] [(.int p2), (.ref r0)])) _
      refine X0.baloadBytes hx (j := p2) (v := (.int (own_lower p3))) (by rw [e0]; exact Ar3.1) (State.isArrayOf_alike hZ.alike Ar3.2.1) Ar3.2.2 hin3 hat3 (g := (mkF m 10 #[rv r0, rv r1, iv p2, iv p3] [(.int p2), (.ref r0)])) rfl rfl (hb hby d2_10) _ ?_
      show Steps p.tables e below (s₁.setTop (mkF m 11 #[rv r0, rv r1, iv p2, iv p3] [(.int (own_lower p3))])) _
      refine XS.iloadN X0.here hx rfl (hb hby d2_11) rfl ?_
      exact kt
    obtain ⟨_, _, ⟨T5, L5, k5, n5⟩, -, X5, ⟨Lc5, hQ5, l5, y5, z5⟩, st5⟩ := Jvm.LawKit.callS X0 hx (y := (⟨"com/example/ereikoussa/ereikoussa/dns/DnsNameLowerCasePinLaw", "lower", "(B)B"⟩ : MethodName)) hown (mvT hZ (hw _ (List.mem_of_getElem? (i := 18) rfl))) (mvT hZ (hw _ (List.mem_of_getElem? (i := 19) rfl))) (mvT hZ (hw _ (List.mem_of_getElem? (i := 16) rfl))) (mvT hZ (hw _ (List.mem_of_getElem? (i := 20) rfl))) (by decide) (backOf (W := 1) (rm3 l Z a0 hw [] p3 h0 n0 (Nat.le_trans Z0 (Keep.refl h0 []).1)) hZ (hw _ (List.mem_of_getElem? (i := 20) rfl)) (hw _ (List.mem_of_getElem? (i := 16) rfl)) (by decide) (by decide)) (g := (mkF m 12 #[rv r0, rv r1, iv p2, iv p3] [(.int p3), (.int (own_lower p3))])) rfl (by rw [hml]; rfl) (argsL := [(.int p3)]) (rest := [(.int (own_lower p3))]) (lenOf pd2 rfl) rfl (by show 2 * 0 + _ ≤ _; exact Nat.le_of_eq rfl) (hb hby d2_12) (fun _ _ => ⟨rfl, e0, (by decide : 0 + 0 ≤ _), (by decide : 0 + 0 ≤ _)⟩)
    dsimp only [Pt.U, Pt.locs, Pt.cells, Pt.slots] at X5 l5 y5 z5 st5 hQ5
    subst l5 y5 z5
    obtain ⟨rfl, N5q, hh5⟩ := hQ5
    have N5 := Fr.app N0 N5q
    obtain ⟨cl6, Ar6, q6, S6, M6, H6, G6⟩ := id V_r1
    have hin6 : ¬ (p2 < 0 ∨ cl6.slots.size ≤ (p2).toNatClampNeg) := inb_of S6 ⟨hi0, hc3⟩
    have hat6 : cl6.slots[(p2).toNatClampNeg]? = some (.int p3) := H6.at hin6 (hval hc3).2
    have pre7 : ∀ t, Steps p.tables e below (T5.setTop (mkF m 30 #[rv r0, rv r1, iv p2, iv p3] [(.int (1 : Int32))])) t → Steps p.tables e below (s₁.setTop (entryFrame m #[(.ref r0), (.ref r1), (.int p2), (.int p3)] 4)) t := by
      intro t kt
      refine pre4 _ ?_
      show Steps p.tables e below (s₁.setTop (mkF m 12 #[rv r0, rv r1, iv p2, iv p3] [(.int p3), (.int (own_lower p3))])) _
      refine st5 _ ?_
      show Steps p.tables e below (T5.setTop (mkF m 15 #[rv r0, rv r1, iv p2, iv p3] [(.int (own_lower p3)), (.int (own_lower p3))])) _
      refine XS.icmpNo X5.here hx rfl (hb hby d2_15) rfl (teq rfl).2 ?_
      show Steps p.tables e below (T5.setTop (mkF m 18 #[rv r0, rv r1, iv p2, iv p3] [])) _
      refine XS.aloadN X5.here hx rfl (hb hby d2_18) rfl rfl ?_
      show Steps p.tables e below (T5.setTop (mkF m 19 #[rv r0, rv r1, iv p2, iv p3] [(.ref r1)])) _
      refine XS.iloadN X5.here hx rfl (hb hby d2_19) rfl ?_
      show Steps p.tables e below (T5.setTop (mkF m 20 #[rv r0, rv r1, iv p2, iv p3] [(.int p2), (.ref r1)])) _
      refine X5.baloadBytes hx (j := p2) (v := (.int p3)) (by rw [hh5]; exact Ar6.1) (State.isArrayOf_alike hZ.alike Ar6.2.1) Ar6.2.2 hin6 hat6 (g := (mkF m 20 #[rv r0, rv r1, iv p2, iv p3] [(.int p2), (.ref r1)])) rfl rfl (hb hby d2_20) _ ?_
      show Steps p.tables e below (T5.setTop (mkF m 21 #[rv r0, rv r1, iv p2, iv p3] [(.int p3)])) _
      refine XS.iloadN X5.here hx rfl (hb hby d2_21) rfl ?_
      show Steps p.tables e below (T5.setTop (mkF m 22 #[rv r0, rv r1, iv p2, iv p3] [(.int p3), (.int p3)])) _
      refine XS.icmpNo X5.here hx rfl (hb hby d2_22) rfl (teq rfl).2 ?_
      show Steps p.tables e below (T5.setTop (mkF m 25 #[rv r0, rv r1, iv p2, iv p3] [])) _
      refine XS.iconst X5.here hx rfl (hb hby d2_25) ?_
      show Steps p.tables e below (T5.setTop (mkF m 26 #[rv r0, rv r1, iv p2, iv p3] [(.int (1 : Int32))])) _
      refine XS.goto X5.here hx rfl (pc0 := 26) (pc' := 30) rfl (hb hby d2_26) (by decide) (by decide) ?_
      exact kt
    obtain ⟨fs, hr, hrun, hended, hW, hsame⟩ := X5.leave (v := some (.int (1 : Int32))) (fun h => by rw [Bd.returns] at h; cases h)
    refine ⟨_, _, pre7 _ ?_, hrun, hended, _, _, rfl, ?_, ⟨_, rfl⟩, hW, hsame.mono (by decide) (by decide)⟩
    · show Steps p.tables e below (T5.setTop (mkF m 30 #[rv r0, rv r1, iv p2, iv p3] [(.int (1 : Int32))])) _
      exact retN X5 hx (t := .boolean) Bd.returns (by simp) (hb hby d2_30) hr
    · show Q2 Z r0 r1 p2 p3 k1 k2 z vs us d1 d2 h0 n0 _ T5.heap _
      rw [hh5]
      exact ⟨rfl, N5, rfl⟩
  · have pre8 : ∀ t, Steps p.tables e below (s₁.setTop (mkF m 7 #[rv r0, rv r1, iv p2, iv p3] [(.int (1 : Int32))])) t → Steps p.tables e below (s₁.setTop (entryFrame m #[(.ref r0), (.ref r1), (.int p2), (.int p3)] 4)) t := by
      intro t kt
      refine pre2 _ ?_
      show Steps p.tables e below (s₁.setTop (mkF m 3 #[rv r0, rv r1, iv p2, iv p3] [(.int z), (.int p2)])) _
      refine XS.icmpNo X0.here hx rfl (hb hby d2_3) rfl (flt hc3).1 ?_
      show Steps p.tables e below (s₁.setTop (mkF m 6 #[rv r0, rv r1, iv p2, iv p3] [])) _
      refine XS.iconst X0.here hx rfl (hb hby d2_6) ?_
      exact kt
    obtain ⟨fs, hr, hrun, hended, hW, hsame⟩ := X0.leave (v := some (.int (1 : Int32))) (fun h => by rw [Bd.returns] at h; cases h)
    refine ⟨_, _, pre8 _ ?_, hrun, hended, _, _, rfl, ?_, ⟨_, rfl⟩, hW, hsame.mono (by decide) (by decide)⟩
    · show Steps p.tables e below (s₁.setTop (mkF m 7 #[rv r0, rv r1, iv p2, iv p3] [(.int (1 : Int32))])) _
      exact retN X0 hx (t := .boolean) Bd.returns (by simp) (hb hby d2_7) hr
    · show Q2 Z r0 r1 p2 p3 k1 k2 z vs us d1 d2 h0 n0 _ s₁.heap _
      rw [e0]
      exact ⟨rfl, N0, rfl⟩
theorem pd3 : parseMethodDescriptor "([B)[B" = some ⟨[(.array .byte)], some (.array .byte)⟩ := by decide +kernel
theorem pd4 : parseMethodDescriptor "([B[BIB)Z" = some ⟨[(.array .byte), (.array .byte), .int, .byte], some .boolean⟩ := by decide +kernel
theorem ef_0 (m : MethodId) (x0 : Int32) (x1 : Int32) (x2 : Int32) (x3 : Int32) (x4 : Int32) : entryFrame m #[(.int x0), (.int x1), (.int x2), (.int x3), (.int x4)] maxLocals = mkF m 0 #[.val (.int x0), .val (.int x1), .val (.int x2), .val (.int x3), .val (.int x4), .unset, .unset, .unset, .unset] [] := by first | (simp [entryFrame, mkF, argsToLocals, Value.category, maxLocals]; done) | rfl
def Q0 (Z : State) (p0 : Int32) (p1 : Int32) (p2 : Int32) (p3 : Int32) (p4 : Int32) (h0 : Heap) (n0 : Nat) (v : Option Value) (h : Heap) (L : List Loc) : Prop := v = some (.int 1) ∧ Fr n0 L
set_option maxRecDepth 65536 in
set_option maxHeartbeats 40000000 in
theorem rm0 (l : Launch) (Z : State) (a0 : Array Value) (hw : ∀ d ∈ tables_1, d.before a0 Z = true) (ws : List Jvm.Cond) (p0 : Int32) (p1 : Int32) (p2 : Int32) (p3 : Int32) (p4 : Int32) (h0 : Heap) (n0 : Nat) (Z0 : n0 ≤ h0.size) :
    MetFree l x (head1 (Jvm.Cond.code x code maxLocals ret :: ws) room_1) (fun a U => a = #[(.int p0), (.int p1), (.int p2), (.int p3), (.int p4)] ∧ Z.Warmed39 U.vm ∧ U.heap = h0) (fun _ _ _ _ _ => True) (fun _ U o U' => ∃ v L, o = .returned v ∧ Q0 Z p0 p1 p2 p3 p4 h0 n0 v U'.heap L ∧ FrameEnd U o U' L room_1.cells room_1.slots) := by
  refine MetFree.of_bodySF (plainFor_of_name pn0) hisR ?_
  intro p e s m args below meth c s₁ Bd hml0 hP hK
  obtain ⟨rfl, hZ, hh⟩ := hP
  have hx := Bd.exec
  have hby := Bd.bytes
  have hml : c.maxLocals = 9 := hml0
  have hown : s.vm.findClass "com/example/ereikoussa/ereikoussa/dns/DnsNameLowerCasePinLaw" = some m.cls := findClass_of_methodNamed Bd.named
  have hnm := (name_of_methodNamed Bd.named Bd.method).1
  have X0 : Stand p l e room_1 s m #[(.int p0), (.int p1), (.int p2), (.int p3), (.int p4)] below meth c s₁ [] 0 0 := Stand.of_body Bd
  have e0 : s₁.heap = h0 := by rw [← hh, Bd.state]; rfl
  have N0 := Fr.nil n0
  have pre0 : ∀ t, Steps p.tables e below (s₁.setTop (mkF m 0 #[iv p0, iv p1, iv p2, iv p3, iv p4, .unset, .unset, .unset, .unset] [])) t → Steps p.tables e below (s₁.setTop (entryFrame m #[(.int p0), (.int p1), (.int p2), (.int p3), (.int p4)] maxLocals)) t := fun t k => castTop (ef_0 m p0 p1 p2 p3 p4) k
  have pre1 : ∀ t, Steps p.tables e below (s₁.setTop (mkF m 1 #[iv p0, iv p1, iv p2, iv p3, iv p4, .unset, .unset, .unset, .unset] [(.int (4 : Int32))])) t → Steps p.tables e below (s₁.setTop (entryFrame m #[(.int p0), (.int p1), (.int p2), (.int p3), (.int p4)] maxLocals)) t := by
    intro t kt
    refine pre0 _ ?_
    show Steps p.tables e below (s₁.setTop (mkF m 0 #[iv p0, iv p1, iv p2, iv p3, iv p4, .unset, .unset, .unset, .unset] [])) _
    refine XS.iconst X0.here hx rfl (hb hby at_0) ?_
    exact kt
  obtain ⟨T2, h2, k2, X2, e2, E2, A2, Ex2, st2⟩ := newPE X0 hx hZ (hw _ (List.mem_of_getElem? (i := 0) rfl)) e0 (g := (mkF m 1 #[iv p0, iv p1, iv p2, iv p3, iv p4, .unset, .unset, .unset, .unset] [(.int (4 : Int32))])) rfl (hb hby at_1) rfl (by decide) (cap := 4) (by decide) (by decide) (by decide) (by decide) (ad := "[B") rfl
  obtain ⟨b2, g2⟩ : ∃ z, z = h0.size := ⟨_, rfl⟩
  rw [← g2] at A2 Ex2 st2
  have g_b2 : n0 ≤ b2 := Nat.le_trans (Nat.le_trans Z0 (Keep.refl h0 []).1) (Nat.le_of_eq g2.symm)
  have sz_b2 : h0.size ≤ b2 := Nat.le_trans (Keep.refl h0 []).1 (Nat.le_of_eq g2.symm)
  have V_b2 : Arv Z h2 b2 k2 .byte (4 : Int32) [(.int (0 : Int32)), (.int (0 : Int32)), (.int (0 : Int32)), (.int (0 : Int32))] (.int (0 : Int32)) := (Arv.new A2 (by decide)).pad (pad_rep [] (.int (0 : Int32)) 4)
  have K2 : Keep h0 h2 [] := (Keep.refl h0 []).ext E2
  have pre3 : ∀ t, Steps p.tables e below (T2.setTop (mkF m 7 #[iv p0, iv p1, iv p2, iv p3, iv p4, .unset, .unset, .unset, .unset] [(.int (p0.toInt8.toInt32)), (.int (0 : Int32)), (.ref b2), (.ref b2)])) t → Steps p.tables e below (s₁.setTop (entryFrame m #[(.int p0), (.int p1), (.int p2), (.int p3), (.int p4)] maxLocals)) t := by
    intro t kt
    refine pre1 _ ?_
    show Steps p.tables e below (s₁.setTop (mkF m 1 #[iv p0, iv p1, iv p2, iv p3, iv p4, .unset, .unset, .unset, .unset] [(.int (4 : Int32))])) _
    refine st2 _ ?_
    show Steps p.tables e below (T2.setTop (mkF m 3 #[iv p0, iv p1, iv p2, iv p3, iv p4, .unset, .unset, .unset, .unset] [(.ref b2)])) _
    refine XS.dup X2.here hx rfl (hb hby at_3) rfl rfl ?_
    show Steps p.tables e below (T2.setTop (mkF m 4 #[iv p0, iv p1, iv p2, iv p3, iv p4, .unset, .unset, .unset, .unset] [(.ref b2), (.ref b2)])) _
    refine XS.iconst X2.here hx rfl (hb hby at_4) ?_
    show Steps p.tables e below (T2.setTop (mkF m 5 #[iv p0, iv p1, iv p2, iv p3, iv p4, .unset, .unset, .unset, .unset] [(.int (0 : Int32)), (.ref b2), (.ref b2)])) _
    refine XS.iloadN X2.here hx rfl (hb hby at_5) rfl ?_
    show Steps p.tables e below (T2.setTop (mkF m 6 #[iv p0, iv p1, iv p2, iv p3, iv p4, .unset, .unset, .unset, .unset] [(.int p0), (.int (0 : Int32)), (.ref b2), (.ref b2)])) _
    refine XS.i2b X2.here hx rfl (hb hby at_6) rfl ?_
    exact kt
  obtain ⟨cl4, Ar4, q4, S4, M4, H4, G4⟩ := id V_b2
  have hin4 : ¬ ((0 : Int32) < 0 ∨ cl4.slots.size ≤ ((0 : Int32)).toNatClampNeg) := inb_of S4 ⟨by decide, by decide⟩
  obtain ⟨T4, h4, X4, e4, W4, st4⟩ := stB X2 hx hZ e2 Ar4 (j := (0 : Int32)) hin4 (g := (mkF m 7 #[iv p0, iv p1, iv p2, iv p3, iv p4, .unset, .unset, .unset, .unset] [(.int (p0.toInt8.toInt32)), (.int (0 : Int32)), (.ref b2), (.ref b2)])) rfl rfl (hb hby at_7)
  have nn4 : nar .byte (p0.toInt8.toInt32) = (p0.toInt8.toInt32) := (own_nb _)
  rw [nn4] at W4
  have V4 : Arv Z h4 b2 k2 .byte (4 : Int32) [(.int (p0.toInt8.toInt32)), (.int (0 : Int32)), (.int (0 : Int32)), (.int (0 : Int32))] (.int (0 : Int32)) := Arv.set Ar4 q4 S4 M4 H4 G4 (own_fb nn4) W4 0 rfl (Nat.le_of_ble_eq_true rfl)
  have K4 : Keep h0 h4 [] := K2.wr W4 (Or.inr sz_b2)
  have N4 := Fr.snoc X4 N0 g_b2
  have pre5 : ∀ t, Steps p.tables e below (T4.setTop (mkF m 12 #[iv p0, iv p1, iv p2, iv p3, iv p4, .unset, .unset, .unset, .unset] [(.int (p1.toInt8.toInt32)), (.int (1 : Int32)), (.ref b2), (.ref b2)])) t → Steps p.tables e below (s₁.setTop (entryFrame m #[(.int p0), (.int p1), (.int p2), (.int p3), (.int p4)] maxLocals)) t := by
    intro t kt
    refine pre3 _ ?_
    show Steps p.tables e below (T2.setTop (mkF m 7 #[iv p0, iv p1, iv p2, iv p3, iv p4, .unset, .unset, .unset, .unset] [(.int (p0.toInt8.toInt32)), (.int (0 : Int32)), (.ref b2), (.ref b2)])) _
    refine st4 _ ?_
    show Steps p.tables e below (T4.setTop (mkF m 8 #[iv p0, iv p1, iv p2, iv p3, iv p4, .unset, .unset, .unset, .unset] [(.ref b2)])) _
    refine XS.dup X4.here hx rfl (hb hby at_8) rfl rfl ?_
    show Steps p.tables e below (T4.setTop (mkF m 9 #[iv p0, iv p1, iv p2, iv p3, iv p4, .unset, .unset, .unset, .unset] [(.ref b2), (.ref b2)])) _
    refine XS.iconst X4.here hx rfl (hb hby at_9) ?_
    show Steps p.tables e below (T4.setTop (mkF m 10 #[iv p0, iv p1, iv p2, iv p3, iv p4, .unset, .unset, .unset, .unset] [(.int (1 : Int32)), (.ref b2), (.ref b2)])) _
    refine XS.iloadN X4.here hx rfl (hb hby at_10) rfl ?_
    show Steps p.tables e below (T4.setTop (mkF m 11 #[iv p0, iv p1, iv p2, iv p3, iv p4, .unset, .unset, .unset, .unset] [(.int p1), (.int (1 : Int32)), (.ref b2), (.ref b2)])) _
    refine XS.i2b X4.here hx rfl (hb hby at_11) rfl ?_
    exact kt
  obtain ⟨cl6, Ar6, q6, S6, M6, H6, G6⟩ := id V4
  have hin6 : ¬ ((1 : Int32) < 0 ∨ cl6.slots.size ≤ ((1 : Int32)).toNatClampNeg) := inb_of S6 ⟨by decide, by decide⟩
  obtain ⟨T6, h6, X6, e6, W6, st6⟩ := stB X4 hx hZ e4 Ar6 (j := (1 : Int32)) hin6 (g := (mkF m 12 #[iv p0, iv p1, iv p2, iv p3, iv p4, .unset, .unset, .unset, .unset] [(.int (p1.toInt8.toInt32)), (.int (1 : Int32)), (.ref b2), (.ref b2)])) rfl rfl (hb hby at_12)
  have nn6 : nar .byte (p1.toInt8.toInt32) = (p1.toInt8.toInt32) := (own_nb _)
  rw [nn6] at W6
  have V6 : Arv Z h6 b2 k2 .byte (4 : Int32) [(.int (p0.toInt8.toInt32)), (.int (p1.toInt8.toInt32)), (.int (0 : Int32)), (.int (0 : Int32))] (.int (0 : Int32)) := Arv.set Ar6 q6 S6 M6 H6 G6 (own_fb nn6) W6 1 rfl (Nat.le_of_ble_eq_true rfl)
  have K6 : Keep h0 h6 [] := K4.wr W6 (Or.inr sz_b2)
  have N6 := Fr.snoc X6 N4 g_b2
  have pre7 : ∀ t, Steps p.tables e below (T6.setTop (mkF m 17 #[iv p0, iv p1, iv p2, iv p3, iv p4, .unset, .unset, .unset, .unset] [(.int (p2.toInt8.toInt32)), (.int (2 : Int32)), (.ref b2), (.ref b2)])) t → Steps p.tables e below (s₁.setTop (entryFrame m #[(.int p0), (.int p1), (.int p2), (.int p3), (.int p4)] maxLocals)) t := by
    intro t kt
    refine pre5 _ ?_
    show Steps p.tables e below (T4.setTop (mkF m 12 #[iv p0, iv p1, iv p2, iv p3, iv p4, .unset, .unset, .unset, .unset] [(.int (p1.toInt8.toInt32)), (.int (1 : Int32)), (.ref b2), (.ref b2)])) _
    refine st6 _ ?_
    show Steps p.tables e below (T6.setTop (mkF m 13 #[iv p0, iv p1, iv p2, iv p3, iv p4, .unset, .unset, .unset, .unset] [(.ref b2)])) _
    refine XS.dup X6.here hx rfl (hb hby at_13) rfl rfl ?_
    show Steps p.tables e below (T6.setTop (mkF m 14 #[iv p0, iv p1, iv p2, iv p3, iv p4, .unset, .unset, .unset, .unset] [(.ref b2), (.ref b2)])) _
    refine XS.iconst X6.here hx rfl (hb hby at_14) ?_
    show Steps p.tables e below (T6.setTop (mkF m 15 #[iv p0, iv p1, iv p2, iv p3, iv p4, .unset, .unset, .unset, .unset] [(.int (2 : Int32)), (.ref b2), (.ref b2)])) _
    refine XS.iloadN X6.here hx rfl (hb hby at_15) rfl ?_
    show Steps p.tables e below (T6.setTop (mkF m 16 #[iv p0, iv p1, iv p2, iv p3, iv p4, .unset, .unset, .unset, .unset] [(.int p2), (.int (2 : Int32)), (.ref b2), (.ref b2)])) _
    refine XS.i2b X6.here hx rfl (hb hby at_16) rfl ?_
    exact kt
  obtain ⟨cl8, Ar8, q8, S8, M8, H8, G8⟩ := id V6
  have hin8 : ¬ ((2 : Int32) < 0 ∨ cl8.slots.size ≤ ((2 : Int32)).toNatClampNeg) := inb_of S8 ⟨by decide, by decide⟩
  obtain ⟨T8, h8, X8, e8, W8, st8⟩ := stB X6 hx hZ e6 Ar8 (j := (2 : Int32)) hin8 (g := (mkF m 17 #[iv p0, iv p1, iv p2, iv p3, iv p4, .unset, .unset, .unset, .unset] [(.int (p2.toInt8.toInt32)), (.int (2 : Int32)), (.ref b2), (.ref b2)])) rfl rfl (hb hby at_17)
  have nn8 : nar .byte (p2.toInt8.toInt32) = (p2.toInt8.toInt32) := (own_nb _)
  rw [nn8] at W8
  have V8 : Arv Z h8 b2 k2 .byte (4 : Int32) [(.int (p0.toInt8.toInt32)), (.int (p1.toInt8.toInt32)), (.int (p2.toInt8.toInt32)), (.int (0 : Int32))] (.int (0 : Int32)) := Arv.set Ar8 q8 S8 M8 H8 G8 (own_fb nn8) W8 2 rfl (Nat.le_of_ble_eq_true rfl)
  have K8 : Keep h0 h8 [] := K6.wr W8 (Or.inr sz_b2)
  have N8 := Fr.snoc X8 N6 g_b2
  have pre9 : ∀ t, Steps p.tables e below (T8.setTop (mkF m 22 #[iv p0, iv p1, iv p2, iv p3, iv p4, .unset, .unset, .unset, .unset] [(.int (p3.toInt8.toInt32)), (.int (3 : Int32)), (.ref b2), (.ref b2)])) t → Steps p.tables e below (s₁.setTop (entryFrame m #[(.int p0), (.int p1), (.int p2), (.int p3), (.int p4)] maxLocals)) t := by
    intro t kt
    refine pre7 _ ?_
    show Steps p.tables e below (T6.setTop (mkF m 17 #[iv p0, iv p1, iv p2, iv p3, iv p4, .unset, .unset, .unset, .unset] [(.int (p2.toInt8.toInt32)), (.int (2 : Int32)), (.ref b2), (.ref b2)])) _
    refine st8 _ ?_
    show Steps p.tables e below (T8.setTop (mkF m 18 #[iv p0, iv p1, iv p2, iv p3, iv p4, .unset, .unset, .unset, .unset] [(.ref b2)])) _
    refine XS.dup X8.here hx rfl (hb hby at_18) rfl rfl ?_
    show Steps p.tables e below (T8.setTop (mkF m 19 #[iv p0, iv p1, iv p2, iv p3, iv p4, .unset, .unset, .unset, .unset] [(.ref b2), (.ref b2)])) _
    refine XS.iconst X8.here hx rfl (hb hby at_19) ?_
    show Steps p.tables e below (T8.setTop (mkF m 20 #[iv p0, iv p1, iv p2, iv p3, iv p4, .unset, .unset, .unset, .unset] [(.int (3 : Int32)), (.ref b2), (.ref b2)])) _
    refine XS.iloadN X8.here hx rfl (hb hby at_20) rfl ?_
    show Steps p.tables e below (T8.setTop (mkF m 21 #[iv p0, iv p1, iv p2, iv p3, iv p4, .unset, .unset, .unset, .unset] [(.int p3), (.int (3 : Int32)), (.ref b2), (.ref b2)])) _
    refine XS.i2b X8.here hx rfl (hb hby at_21) rfl ?_
    exact kt
  obtain ⟨cl10, Ar10, q10, S10, M10, H10, G10⟩ := id V8
  have hin10 : ¬ ((3 : Int32) < 0 ∨ cl10.slots.size ≤ ((3 : Int32)).toNatClampNeg) := inb_of S10 ⟨by decide, by decide⟩
  obtain ⟨T10, h10, X10, e10, W10, st10⟩ := stB X8 hx hZ e8 Ar10 (j := (3 : Int32)) hin10 (g := (mkF m 22 #[iv p0, iv p1, iv p2, iv p3, iv p4, .unset, .unset, .unset, .unset] [(.int (p3.toInt8.toInt32)), (.int (3 : Int32)), (.ref b2), (.ref b2)])) rfl rfl (hb hby at_22)
  have nn10 : nar .byte (p3.toInt8.toInt32) = (p3.toInt8.toInt32) := (own_nb _)
  rw [nn10] at W10
  have V10 : Arv Z h10 b2 k2 .byte (4 : Int32) [(.int (p0.toInt8.toInt32)), (.int (p1.toInt8.toInt32)), (.int (p2.toInt8.toInt32)), (.int (p3.toInt8.toInt32))] (.int (0 : Int32)) := Arv.set Ar10 q10 S10 M10 H10 G10 (own_fb nn10) W10 3 rfl (Nat.le_of_ble_eq_true rfl)
  have K10 : Keep h0 h10 [] := K8.wr W10 (Or.inr sz_b2)
  have N10 := Fr.snoc X10 N8 g_b2
  have pre11 : ∀ t, Steps p.tables e below (T10.setTop (mkF m 34 #[iv p0, iv p1, iv p2, iv p3, iv p4, rv b2, iv ((p4 &&& (7 : Int32)) % (5 : Int32)), .unset, .unset] [])) t → Steps p.tables e below (s₁.setTop (entryFrame m #[(.int p0), (.int p1), (.int p2), (.int p3), (.int p4)] maxLocals)) t := by
    intro t kt
    refine pre9 _ ?_
    show Steps p.tables e below (T8.setTop (mkF m 22 #[iv p0, iv p1, iv p2, iv p3, iv p4, .unset, .unset, .unset, .unset] [(.int (p3.toInt8.toInt32)), (.int (3 : Int32)), (.ref b2), (.ref b2)])) _
    refine st10 _ ?_
    show Steps p.tables e below (T10.setTop (mkF m 23 #[iv p0, iv p1, iv p2, iv p3, iv p4, .unset, .unset, .unset, .unset] [(.ref b2)])) _
    refine XS.astore X10.here hx rfl (hb hby at_23) rfl rfl (l' := #[iv p0, iv p1, iv p2, iv p3, iv p4, rv b2, .unset, .unset, .unset]) rfl ?_
    show Steps p.tables e below (T10.setTop (mkF m 25 #[iv p0, iv p1, iv p2, iv p3, iv p4, rv b2, .unset, .unset, .unset] [])) _
    refine XS.iload X10.here hx rfl (hb hby at_25) rfl ?_
    show Steps p.tables e below (T10.setTop (mkF m 27 #[iv p0, iv p1, iv p2, iv p3, iv p4, rv b2, .unset, .unset, .unset] [(.int p4)])) _
    refine XS.bipush X10.here hx rfl (hb hby at_27) ?_
    show Steps p.tables e below (T10.setTop (mkF m 29 #[iv p0, iv p1, iv p2, iv p3, iv p4, rv b2, .unset, .unset, .unset] [(.int (7 : Int32)), (.int p4)])) _
    refine XS.iand X10.here hx rfl (hb hby at_29) rfl ?_
    show Steps p.tables e below (T10.setTop (mkF m 30 #[iv p0, iv p1, iv p2, iv p3, iv p4, rv b2, .unset, .unset, .unset] [(.int (p4 &&& (7 : Int32)))])) _
    refine XS.iconst X10.here hx rfl (hb hby at_30) ?_
    show Steps p.tables e below (T10.setTop (mkF m 31 #[iv p0, iv p1, iv p2, iv p3, iv p4, rv b2, .unset, .unset, .unset] [(.int (5 : Int32)), (.int (p4 &&& (7 : Int32)))])) _
    refine iremM X10 hx rfl (hb hby at_31) rfl (by decide) ?_
    show Steps p.tables e below (T10.setTop (mkF m 32 #[iv p0, iv p1, iv p2, iv p3, iv p4, rv b2, .unset, .unset, .unset] [(.int ((p4 &&& (7 : Int32)) % (5 : Int32)))])) _
    refine XS.istore X10.here hx rfl (hb hby at_32) rfl (l' := #[iv p0, iv p1, iv p2, iv p3, iv p4, rv b2, iv ((p4 &&& (7 : Int32)) % (5 : Int32)), .unset, .unset]) rfl ?_
    exact kt
  rcases own_five p4 with h5 | h5 | h5 | h5 | h5
  · have pre12 : ∀ t, Steps p.tables e below (T10.setTop (mkF m 36 #[iv p0, iv p1, iv p2, iv p3, iv p4, rv b2, iv (0 : Int32), .unset, .unset] [(.int (0 : Int32))])) t → Steps p.tables e below (s₁.setTop (entryFrame m #[(.int p0), (.int p1), (.int p2), (.int p3), (.int p4)] maxLocals)) t := by
      intro t kt
      refine pre11 _ ?_
      show Steps p.tables e below (T10.setTop (mkF m 34 #[iv p0, iv p1, iv p2, iv p3, iv p4, rv b2, iv ((p4 &&& (7 : Int32)) % (5 : Int32)), .unset, .unset] [])) _
      rw [h5]
      show Steps p.tables e below (T10.setTop (mkF m 34 #[iv p0, iv p1, iv p2, iv p3, iv p4, rv b2, iv (0 : Int32), .unset, .unset] [])) _
      refine XS.iload X10.here hx rfl (hb hby at_34) rfl ?_
      exact kt
    obtain ⟨T13, h13, k13, X13, e13, E13, A13, Ex13, st13⟩ := newPE X10 hx hZ (hw _ (List.mem_of_getElem? (i := 0) rfl)) e10 (g := (mkF m 36 #[iv p0, iv p1, iv p2, iv p3, iv p4, rv b2, iv (0 : Int32), .unset, .unset] [(.int (0 : Int32))])) rfl (hb hby at_36) rfl (by decide) (cap := 0) (by decide) (by decide) (by decide) (by decide) (ad := "[B") rfl
    obtain ⟨b13, g13⟩ : ∃ z, z = h10.size := ⟨_, rfl⟩
    rw [← g13] at A13 Ex13 st13
    have g_b13 : n0 ≤ b13 := Nat.le_trans (Nat.le_trans Z0 K10.1) (Nat.le_of_eq g13.symm)
    have sz_b13 : h0.size ≤ b13 := Nat.le_trans K10.1 (Nat.le_of_eq g13.symm)
    have V_b13 : Arv Z h13 b13 k13 .byte (0 : Int32) [] (.int (0 : Int32)) := (Arv.new A13 (by decide))
    have K13 : Keep h0 h13 [] := K10.ext E13
    have pre14 : ∀ t, Steps p.tables e below (T13.setTop (mkF m 97 #[iv p0, iv p1, iv p2, iv p3, iv p4, rv b2, iv (0 : Int32), rv b13, .unset] [(.ref b13)])) t → Steps p.tables e below (s₁.setTop (entryFrame m #[(.int p0), (.int p1), (.int p2), (.int p3), (.int p4)] maxLocals)) t := by
      intro t kt
      refine pre12 _ ?_
      show Steps p.tables e below (T10.setTop (mkF m 36 #[iv p0, iv p1, iv p2, iv p3, iv p4, rv b2, iv (0 : Int32), .unset, .unset] [(.int (0 : Int32))])) _
      refine st13 _ ?_
      show Steps p.tables e below (T13.setTop (mkF m 38 #[iv p0, iv p1, iv p2, iv p3, iv p4, rv b2, iv (0 : Int32), .unset, .unset] [(.ref b13)])) _
      refine XS.astore X13.here hx rfl (hb hby at_38) rfl rfl (l' := #[iv p0, iv p1, iv p2, iv p3, iv p4, rv b2, iv (0 : Int32), rv b13, .unset]) rfl ?_
      show Steps p.tables e below (T13.setTop (mkF m 40 #[iv p0, iv p1, iv p2, iv p3, iv p4, rv b2, iv (0 : Int32), rv b13, .unset] [])) _
      refine XS.iload X13.here hx rfl (hb hby at_40) rfl ?_
      show Steps p.tables e below (T13.setTop (mkF m 42 #[iv p0, iv p1, iv p2, iv p3, iv p4, rv b2, iv (0 : Int32), rv b13, .unset] [(.int (0 : Int32))])) _
      refine XS.ifYes X13.here hx rfl (pc0 := 42) (pc' := 53) rfl (hb hby at_42) rfl ((if0 _ _).trans (flt (by decide)).2.2.2) (by decide) (by decide) ?_
      show Steps p.tables e below (T13.setTop (mkF m 53 #[iv p0, iv p1, iv p2, iv p3, iv p4, rv b2, iv (0 : Int32), rv b13, .unset] [])) _
      refine XS.iload X13.here hx rfl (hb hby at_53) rfl ?_
      show Steps p.tables e below (T13.setTop (mkF m 55 #[iv p0, iv p1, iv p2, iv p3, iv p4, rv b2, iv (0 : Int32), rv b13, .unset] [(.int (0 : Int32))])) _
      refine XS.iconst X13.here hx rfl (hb hby at_55) ?_
      show Steps p.tables e below (T13.setTop (mkF m 56 #[iv p0, iv p1, iv p2, iv p3, iv p4, rv b2, iv (0 : Int32), rv b13, .unset] [(.int (1 : Int32)), (.int (0 : Int32))])) _
      refine XS.icmpYes X13.here hx rfl (pc0 := 56) (pc' := 67) rfl (hb hby at_56) rfl (flt (by decide)).2.2.2 (by decide) (by decide) ?_
      show Steps p.tables e below (T13.setTop (mkF m 67 #[iv p0, iv p1, iv p2, iv p3, iv p4, rv b2, iv (0 : Int32), rv b13, .unset] [])) _
      refine XS.iload X13.here hx rfl (hb hby at_67) rfl ?_
      show Steps p.tables e below (T13.setTop (mkF m 69 #[iv p0, iv p1, iv p2, iv p3, iv p4, rv b2, iv (0 : Int32), rv b13, .unset] [(.int (0 : Int32))])) _
      refine XS.iconst X13.here hx rfl (hb hby at_69) ?_
      show Steps p.tables e below (T13.setTop (mkF m 70 #[iv p0, iv p1, iv p2, iv p3, iv p4, rv b2, iv (0 : Int32), rv b13, .unset] [(.int (2 : Int32)), (.int (0 : Int32))])) _
      refine XS.icmpYes X13.here hx rfl (pc0 := 70) (pc' := 81) rfl (hb hby at_70) rfl (flt (by decide)).2.2.2 (by decide) (by decide) ?_
      show Steps p.tables e below (T13.setTop (mkF m 81 #[iv p0, iv p1, iv p2, iv p3, iv p4, rv b2, iv (0 : Int32), rv b13, .unset] [])) _
      refine XS.iload X13.here hx rfl (hb hby at_81) rfl ?_
      show Steps p.tables e below (T13.setTop (mkF m 83 #[iv p0, iv p1, iv p2, iv p3, iv p4, rv b2, iv (0 : Int32), rv b13, .unset] [(.int (0 : Int32))])) _
      refine XS.iconst X13.here hx rfl (hb hby at_83) ?_
      show Steps p.tables e below (T13.setTop (mkF m 84 #[iv p0, iv p1, iv p2, iv p3, iv p4, rv b2, iv (0 : Int32), rv b13, .unset] [(.int (3 : Int32)), (.int (0 : Int32))])) _
      refine XS.icmpYes X13.here hx rfl (pc0 := 84) (pc' := 95) rfl (hb hby at_84) rfl (flt (by decide)).2.2.2 (by decide) (by decide) ?_
      show Steps p.tables e below (T13.setTop (mkF m 95 #[iv p0, iv p1, iv p2, iv p3, iv p4, rv b2, iv (0 : Int32), rv b13, .unset] [])) _
      refine XS.aload X13.here hx rfl (hb hby at_95) rfl rfl ?_
      exact kt
    obtain ⟨_, _, ⟨T15, L15, k15, n15⟩, -, X15, ⟨Lc15, hQ15, l15, y15, z15⟩, st15⟩ := Jvm.LawKit.callS X13 hx (y := (⟨"com/example/ereikoussa/ereikoussa/dns/DnsName", "lowerCase", "([B)[B"⟩ : MethodName)) hown (mvT hZ (hw _ (List.mem_of_getElem? (i := 1) rfl))) (mvT hZ (hw _ (List.mem_of_getElem? (i := 2) rfl))) (mvT hZ (hw _ (List.mem_of_getElem? (i := 3) rfl))) (mvT hZ (hw _ (List.mem_of_getElem? (i := 4) rfl))) (by decide) (backOf (W := 0) (rm1 l Z a0 hw [] b13 k13 (fun k => ([] : List Int32).getD k 0) 0 h13 n0 (Nat.le_trans Z0 K13.1) (by decide) V_b13 Ex13) hZ (hw _ (List.mem_of_getElem? (i := 4) rfl)) (hw _ (List.mem_of_getElem? (i := 3) rfl)) (by decide) (by decide)) (g := (mkF m 97 #[iv p0, iv p1, iv p2, iv p3, iv p4, rv b2, iv (0 : Int32), rv b13, .unset] [(.ref b13)])) rfl (by rw [hml]; rfl) (argsL := [(.ref b13)]) (rest := []) (lenOf pd3 rfl) rfl (by show 2 * 0 + _ ≤ _; exact Nat.le_of_eq rfl) (hb hby at_97) (fun _ _ => ⟨rfl, e13, (by decide : 2 + 1 ≤ _), (by decide : 4 + 4 ≤ _)⟩)
    dsimp only [Pt.U, Pt.locs, Pt.cells, Pt.slots] at X15 l15 y15 z15 st15 hQ15
    subst l15 y15 z15
    obtain ⟨bo15, rfl, N15q, Kc15, Vo15⟩ := hQ15
    have N15 := Fr.app N10 N15q
    have K15 : Keep h0 T15.heap [] := K13.trans Kc15 all0
    have Vp15 : Arv Z T15.heap bo15 k13 .byte (0 : Int32) [] (.int (0 : Int32)) := Vo15
    obtain ⟨cl16, Ar16, -, S16, M16, -, -⟩ := id Vp15
    obtain ⟨cl17, Ar17, -, S17, M17, -, -⟩ := id (V_b13.keep Kc15 nin0)
    obtain ⟨cl18, Ar18, q18, S18, M18, H18, G18⟩ := id ((V10.ext E13).keep Kc15 nin0)
    have hin18 : ¬ ((0 : Int32) < 0 ∨ cl18.slots.size ≤ ((0 : Int32)).toNatClampNeg) := inb_of S18 ⟨by decide, by decide⟩
    have hat18 : cl18.slots[((0 : Int32)).toNatClampNeg]? = some (.int (p0.toInt8.toInt32)) := H18.at hin18 rfl
    have pre19 : ∀ t, Steps p.tables e below (T15.setTop (mkF m 134 #[iv p0, iv p1, iv p2, iv p3, iv p4, rv b2, iv (0 : Int32), rv b13, rv bo15] [(.int (p0.toInt8.toInt32)), (.int (0 : Int32)), (.ref b13), (.ref bo15)])) t → Steps p.tables e below (s₁.setTop (entryFrame m #[(.int p0), (.int p1), (.int p2), (.int p3), (.int p4)] maxLocals)) t := by
      intro t kt
      refine pre14 _ ?_
      show Steps p.tables e below (T13.setTop (mkF m 97 #[iv p0, iv p1, iv p2, iv p3, iv p4, rv b2, iv (0 : Int32), rv b13, .unset] [(.ref b13)])) _
      refine st15 _ ?_
      show Steps p.tables e below (T15.setTop (mkF m 100 #[iv p0, iv p1, iv p2, iv p3, iv p4, rv b2, iv (0 : Int32), rv b13, .unset] [(.ref bo15)])) _
      refine XS.astore X15.here hx rfl (hb hby at_100) rfl rfl (l' := #[iv p0, iv p1, iv p2, iv p3, iv p4, rv b2, iv (0 : Int32), rv b13, rv bo15]) rfl ?_
      show Steps p.tables e below (T15.setTop (mkF m 102 #[iv p0, iv p1, iv p2, iv p3, iv p4, rv b2, iv (0 : Int32), rv b13, rv bo15] [])) _
      refine XS.aload X15.here hx rfl (hb hby at_102) rfl rfl ?_
      show Steps p.tables e below (T15.setTop (mkF m 104 #[iv p0, iv p1, iv p2, iv p3, iv p4, rv b2, iv (0 : Int32), rv b13, rv bo15] [(.ref bo15)])) _
      refine XS.ifnullNo X15.here hx rfl (hb hby at_104) rfl ?_
      show Steps p.tables e below (T15.setTop (mkF m 107 #[iv p0, iv p1, iv p2, iv p3, iv p4, rv b2, iv (0 : Int32), rv b13, rv bo15] [])) _
      refine XS.aload X15.here hx rfl (hb hby at_107) rfl rfl ?_
      show Steps p.tables e below (T15.setTop (mkF m 109 #[iv p0, iv p1, iv p2, iv p3, iv p4, rv b2, iv (0 : Int32), rv b13, rv bo15] [(.ref bo15)])) _
      refine X15.arraylength hx Ar16.1 (State.isArrayOf_alike hZ.alike Ar16.2.1) (g := (mkF m 109 #[iv p0, iv p1, iv p2, iv p3, iv p4, rv b2, iv (0 : Int32), rv b13, rv bo15] [(.ref bo15)])) rfl rfl (hb hby at_109) _ ?_
      rw [len_of S16 M16]
      show Steps p.tables e below (T15.setTop (mkF m 110 #[iv p0, iv p1, iv p2, iv p3, iv p4, rv b2, iv (0 : Int32), rv b13, rv bo15] [(.int (0 : Int32))])) _
      refine XS.iload X15.here hx rfl (hb hby at_110) rfl ?_
      show Steps p.tables e below (T15.setTop (mkF m 112 #[iv p0, iv p1, iv p2, iv p3, iv p4, rv b2, iv (0 : Int32), rv b13, rv bo15] [(.int (0 : Int32)), (.int (0 : Int32))])) _
      refine XS.icmpNo X15.here hx rfl (hb hby at_112) rfl (teq (by decide)).2 ?_
      show Steps p.tables e below (T15.setTop (mkF m 115 #[iv p0, iv p1, iv p2, iv p3, iv p4, rv b2, iv (0 : Int32), rv b13, rv bo15] [])) _
      refine XS.aload X15.here hx rfl (hb hby at_115) rfl rfl ?_
      show Steps p.tables e below (T15.setTop (mkF m 117 #[iv p0, iv p1, iv p2, iv p3, iv p4, rv b2, iv (0 : Int32), rv b13, rv bo15] [(.ref b13)])) _
      refine X15.arraylength hx Ar17.1 (State.isArrayOf_alike hZ.alike Ar17.2.1) (g := (mkF m 117 #[iv p0, iv p1, iv p2, iv p3, iv p4, rv b2, iv (0 : Int32), rv b13, rv bo15] [(.ref b13)])) rfl rfl (hb hby at_117) _ ?_
      rw [len_of S17 M17]
      show Steps p.tables e below (T15.setTop (mkF m 118 #[iv p0, iv p1, iv p2, iv p3, iv p4, rv b2, iv (0 : Int32), rv b13, rv bo15] [(.int (0 : Int32))])) _
      refine XS.iload X15.here hx rfl (hb hby at_118) rfl ?_
      show Steps p.tables e below (T15.setTop (mkF m 120 #[iv p0, iv p1, iv p2, iv p3, iv p4, rv b2, iv (0 : Int32), rv b13, rv bo15] [(.int (0 : Int32)), (.int (0 : Int32))])) _
      refine XS.icmpYes X15.here hx rfl (pc0 := 120) (pc' := 125) rfl (hb hby at_120) rfl (teq (by decide)).1 (by decide) (by decide) ?_
      show Steps p.tables e below (T15.setTop (mkF m 125 #[iv p0, iv p1, iv p2, iv p3, iv p4, rv b2, iv (0 : Int32), rv b13, rv bo15] [])) _
      refine XS.aload X15.here hx rfl (hb hby at_125) rfl rfl ?_
      show Steps p.tables e below (T15.setTop (mkF m 127 #[iv p0, iv p1, iv p2, iv p3, iv p4, rv b2, iv (0 : Int32), rv b13, rv bo15] [(.ref bo15)])) _
      refine XS.aload X15.here hx rfl (hb hby at_127) rfl rfl ?_
      show Steps p.tables e below (T15.setTop (mkF m 129 #[iv p0, iv p1, iv p2, iv p3, iv p4, rv b2, iv (0 : Int32), rv b13, rv bo15] [(.ref b13), (.ref bo15)])) _
      refine XS.iconst X15.here hx rfl (hb hby at_129) ?_
      show Steps p.tables e below (T15.setTop (mkF m 130 #[iv p0, iv p1, iv p2, iv p3, iv p4, rv b2, iv (0 : Int32), rv b13, rv bo15] [(.int (0 : Int32)), (.ref b13), (.ref bo15)])) _
      refine XS.aload X15.here hx rfl (hb hby at_130) rfl rfl ?_
      show Steps p.tables e below (T15.setTop (mkF m 132 #[iv p0, iv p1, iv p2, iv p3, iv p4, rv b2, iv (0 : Int32), rv b13, rv bo15] [(.ref b2), (.int (0 : Int32)), (.ref b13), (.ref bo15)])) _
      refine XS.iconst X15.here hx rfl (hb hby at_132) ?_
      show Steps p.tables e below (T15.setTop (mkF m 133 #[iv p0, iv p1, iv p2, iv p3, iv p4, rv b2, iv (0 : Int32), rv b13, rv bo15] [(.int (0 : Int32)), (.ref b2), (.int (0 : Int32)), (.ref b13), (.ref bo15)])) _
      refine X15.baloadBytes hx (j := (0 : Int32)) (v := (.int (p0.toInt8.toInt32))) Ar18.1 (State.isArrayOf_alike hZ.alike Ar18.2.1) Ar18.2.2 hin18 hat18 (g := (mkF m 133 #[iv p0, iv p1, iv p2, iv p3, iv p4, rv b2, iv (0 : Int32), rv b13, rv bo15] [(.int (0 : Int32)), (.ref b2), (.int (0 : Int32)), (.ref b13), (.ref bo15)])) rfl rfl (hb hby at_133) _ ?_
      exact kt
    obtain ⟨_, _, ⟨T20, L20, k20, n20⟩, -, X20, ⟨Lc20, hQ20, l20, y20, z20⟩, st20⟩ := Jvm.LawKit.callS X15 hx (y := (⟨"com/example/ereikoussa/ereikoussa/dns/DnsNameLowerCasePinLaw", "at", "([B[BIB)Z"⟩ : MethodName)) hown (mvT hZ (hw _ (List.mem_of_getElem? (i := 14) rfl))) (mvT hZ (hw _ (List.mem_of_getElem? (i := 15) rfl))) (mvT hZ (hw _ (List.mem_of_getElem? (i := 16) rfl))) (mvT hZ (hw _ (List.mem_of_getElem? (i := 17) rfl))) (by decide) (backOf (W := 0) (rm2 l Z a0 hw [] bo15 b13 (0 : Int32) (p0.toInt8.toInt32) k13 k13 (0 : Int32) [] [] (.int (0 : Int32)) (.int (0 : Int32)) T15.heap n0 (Nat.le_trans Z0 K15.1) Vp15 (V_b13.keep Kc15 nin0) (by decide) (fun q => absurd q (by decide))) hZ (hw _ (List.mem_of_getElem? (i := 17) rfl)) (hw _ (List.mem_of_getElem? (i := 16) rfl)) (by decide) (by decide)) (g := (mkF m 134 #[iv p0, iv p1, iv p2, iv p3, iv p4, rv b2, iv (0 : Int32), rv b13, rv bo15] [(.int (p0.toInt8.toInt32)), (.int (0 : Int32)), (.ref b13), (.ref bo15)])) rfl (by rw [hml]; rfl) (argsL := [(.ref bo15), (.ref b13), (.int (0 : Int32)), (.int (p0.toInt8.toInt32))]) (rest := []) (lenOf pd4 rfl) rfl (by show 2 * 0 + _ ≤ _; exact Nat.le_of_eq rfl) (hb hby at_134) (fun _ _ => ⟨rfl, rfl, (by decide : 3 + 0 ≤ _), (by decide : 8 + 0 ≤ _)⟩)
    dsimp only [Pt.U, Pt.locs, Pt.cells, Pt.slots] at X20 l20 y20 z20 st20 hQ20
    subst l20 y20 z20
    obtain ⟨rfl, N20q, hh20⟩ := hQ20
    have N20 := Fr.app N15 N20q
    obtain ⟨cl21, Ar21, q21, S21, M21, H21, G21⟩ := id ((V10.ext E13).keep Kc15 nin0)
    have hin21 : ¬ ((1 : Int32) < 0 ∨ cl21.slots.size ≤ ((1 : Int32)).toNatClampNeg) := inb_of S21 ⟨by decide, by decide⟩
    have hat21 : cl21.slots[((1 : Int32)).toNatClampNeg]? = some (.int (p1.toInt8.toInt32)) := H21.at hin21 rfl
    have pre22 : ∀ t, Steps p.tables e below (T20.setTop (mkF m 149 #[iv p0, iv p1, iv p2, iv p3, iv p4, rv b2, iv (0 : Int32), rv b13, rv bo15] [(.int (p1.toInt8.toInt32)), (.int (1 : Int32)), (.ref b13), (.ref bo15)])) t → Steps p.tables e below (s₁.setTop (entryFrame m #[(.int p0), (.int p1), (.int p2), (.int p3), (.int p4)] maxLocals)) t := by
      intro t kt
      refine pre19 _ ?_
      show Steps p.tables e below (T15.setTop (mkF m 134 #[iv p0, iv p1, iv p2, iv p3, iv p4, rv b2, iv (0 : Int32), rv b13, rv bo15] [(.int (p0.toInt8.toInt32)), (.int (0 : Int32)), (.ref b13), (.ref bo15)])) _
      refine st20 _ ?_
      show Steps p.tables e below (T20.setTop (mkF m 137 #[iv p0, iv p1, iv p2, iv p3, iv p4, rv b2, iv (0 : Int32), rv b13, rv bo15] [(.int (1 : Int32))])) _
      refine XS.ifNo X20.here hx rfl (hb hby at_137) rfl ((if0 _ _).trans (feq (by decide)).1) ?_
      show Steps p.tables e below (T20.setTop (mkF m 140 #[iv p0, iv p1, iv p2, iv p3, iv p4, rv b2, iv (0 : Int32), rv b13, rv bo15] [])) _
      refine XS.aload X20.here hx rfl (hb hby at_140) rfl rfl ?_
      show Steps p.tables e below (T20.setTop (mkF m 142 #[iv p0, iv p1, iv p2, iv p3, iv p4, rv b2, iv (0 : Int32), rv b13, rv bo15] [(.ref bo15)])) _
      refine XS.aload X20.here hx rfl (hb hby at_142) rfl rfl ?_
      show Steps p.tables e below (T20.setTop (mkF m 144 #[iv p0, iv p1, iv p2, iv p3, iv p4, rv b2, iv (0 : Int32), rv b13, rv bo15] [(.ref b13), (.ref bo15)])) _
      refine XS.iconst X20.here hx rfl (hb hby at_144) ?_
      show Steps p.tables e below (T20.setTop (mkF m 145 #[iv p0, iv p1, iv p2, iv p3, iv p4, rv b2, iv (0 : Int32), rv b13, rv bo15] [(.int (1 : Int32)), (.ref b13), (.ref bo15)])) _
      refine XS.aload X20.here hx rfl (hb hby at_145) rfl rfl ?_
      show Steps p.tables e below (T20.setTop (mkF m 147 #[iv p0, iv p1, iv p2, iv p3, iv p4, rv b2, iv (0 : Int32), rv b13, rv bo15] [(.ref b2), (.int (1 : Int32)), (.ref b13), (.ref bo15)])) _
      refine XS.iconst X20.here hx rfl (hb hby at_147) ?_
      show Steps p.tables e below (T20.setTop (mkF m 148 #[iv p0, iv p1, iv p2, iv p3, iv p4, rv b2, iv (0 : Int32), rv b13, rv bo15] [(.int (1 : Int32)), (.ref b2), (.int (1 : Int32)), (.ref b13), (.ref bo15)])) _
      refine X20.baloadBytes hx (j := (1 : Int32)) (v := (.int (p1.toInt8.toInt32))) (by rw [hh20]; exact Ar21.1) (State.isArrayOf_alike hZ.alike Ar21.2.1) Ar21.2.2 hin21 hat21 (g := (mkF m 148 #[iv p0, iv p1, iv p2, iv p3, iv p4, rv b2, iv (0 : Int32), rv b13, rv bo15] [(.int (1 : Int32)), (.ref b2), (.int (1 : Int32)), (.ref b13), (.ref bo15)])) rfl rfl (hb hby at_148) _ ?_
      exact kt
    obtain ⟨_, _, ⟨T23, L23, k23, n23⟩, -, X23, ⟨Lc23, hQ23, l23, y23, z23⟩, st23⟩ := Jvm.LawKit.callS X20 hx (y := (⟨"com/example/ereikoussa/ereikoussa/dns/DnsNameLowerCasePinLaw", "at", "([B[BIB)Z"⟩ : MethodName)) hown (mvT hZ (hw _ (List.mem_of_getElem? (i := 14) rfl))) (mvT hZ (hw _ (List.mem_of_getElem? (i := 15) rfl))) (mvT hZ (hw _ (List.mem_of_getElem? (i := 16) rfl))) (mvT hZ (hw _ (List.mem_of_getElem? (i := 17) rfl))) (by decide) (backOf (W := 0) (rm2 l Z a0 hw [] bo15 b13 (1 : Int32) (p1.toInt8.toInt32) k13 k13 (0 : Int32) [] [] (.int (0 : Int32)) (.int (0 : Int32)) T15.heap n0 (Nat.le_trans Z0 K15.1) Vp15 (V_b13.keep Kc15 nin0) (by decide) (fun q => absurd q (by decide))) hZ (hw _ (List.mem_of_getElem? (i := 17) rfl)) (hw _ (List.mem_of_getElem? (i := 16) rfl)) (by decide) (by decide)) (g := (mkF m 149 #[iv p0, iv p1, iv p2, iv p3, iv p4, rv b2, iv (0 : Int32), rv b13, rv bo15] [(.int (p1.toInt8.toInt32)), (.int (1 : Int32)), (.ref b13), (.ref bo15)])) rfl (by rw [hml]; rfl) (argsL := [(.ref bo15), (.ref b13), (.int (1 : Int32)), (.int (p1.toInt8.toInt32))]) (rest := []) (lenOf pd4 rfl) rfl (by show 2 * 0 + _ ≤ _; exact Nat.le_of_eq rfl) (hb hby at_149) (fun _ _ => ⟨rfl, hh20, (by decide : 3 + 0 ≤ _), (by decide : 8 + 0 ≤ _)⟩)
    dsimp only [Pt.U, Pt.locs, Pt.cells, Pt.slots] at X23 l23 y23 z23 st23 hQ23
    subst l23 y23 z23
    obtain ⟨rfl, N23q, hh23⟩ := hQ23
    have N23 := Fr.app N20 N23q
    obtain ⟨cl24, Ar24, q24, S24, M24, H24, G24⟩ := id ((V10.ext E13).keep Kc15 nin0)
    have hin24 : ¬ ((2 : Int32) < 0 ∨ cl24.slots.size ≤ ((2 : Int32)).toNatClampNeg) := inb_of S24 ⟨by decide, by decide⟩
    have hat24 : cl24.slots[((2 : Int32)).toNatClampNeg]? = some (.int (p2.toInt8.toInt32)) := H24.at hin24 rfl
    have pre25 : ∀ t, Steps p.tables e below (T23.setTop (mkF m 164 #[iv p0, iv p1, iv p2, iv p3, iv p4, rv b2, iv (0 : Int32), rv b13, rv bo15] [(.int (p2.toInt8.toInt32)), (.int (2 : Int32)), (.ref b13), (.ref bo15)])) t → Steps p.tables e below (s₁.setTop (entryFrame m #[(.int p0), (.int p1), (.int p2), (.int p3), (.int p4)] maxLocals)) t := by
      intro t kt
      refine pre22 _ ?_
      show Steps p.tables e below (T20.setTop (mkF m 149 #[iv p0, iv p1, iv p2, iv p3, iv p4, rv b2, iv (0 : Int32), rv b13, rv bo15] [(.int (p1.toInt8.toInt32)), (.int (1 : Int32)), (.ref b13), (.ref bo15)])) _
      refine st23 _ ?_
      show Steps p.tables e below (T23.setTop (mkF m 152 #[iv p0, iv p1, iv p2, iv p3, iv p4, rv b2, iv (0 : Int32), rv b13, rv bo15] [(.int (1 : Int32))])) _
      refine XS.ifNo X23.here hx rfl (hb hby at_152) rfl ((if0 _ _).trans (feq (by decide)).1) ?_
      show Steps p.tables e below (T23.setTop (mkF m 155 #[iv p0, iv p1, iv p2, iv p3, iv p4, rv b2, iv (0 : Int32), rv b13, rv bo15] [])) _
      refine XS.aload X23.here hx rfl (hb hby at_155) rfl rfl ?_
      show Steps p.tables e below (T23.setTop (mkF m 157 #[iv p0, iv p1, iv p2, iv p3, iv p4, rv b2, iv (0 : Int32), rv b13, rv bo15] [(.ref bo15)])) _
      refine XS.aload X23.here hx rfl (hb hby at_157) rfl rfl ?_
      show Steps p.tables e below (T23.setTop (mkF m 159 #[iv p0, iv p1, iv p2, iv p3, iv p4, rv b2, iv (0 : Int32), rv b13, rv bo15] [(.ref b13), (.ref bo15)])) _
      refine XS.iconst X23.here hx rfl (hb hby at_159) ?_
      show Steps p.tables e below (T23.setTop (mkF m 160 #[iv p0, iv p1, iv p2, iv p3, iv p4, rv b2, iv (0 : Int32), rv b13, rv bo15] [(.int (2 : Int32)), (.ref b13), (.ref bo15)])) _
      refine XS.aload X23.here hx rfl (hb hby at_160) rfl rfl ?_
      show Steps p.tables e below (T23.setTop (mkF m 162 #[iv p0, iv p1, iv p2, iv p3, iv p4, rv b2, iv (0 : Int32), rv b13, rv bo15] [(.ref b2), (.int (2 : Int32)), (.ref b13), (.ref bo15)])) _
      refine XS.iconst X23.here hx rfl (hb hby at_162) ?_
      show Steps p.tables e below (T23.setTop (mkF m 163 #[iv p0, iv p1, iv p2, iv p3, iv p4, rv b2, iv (0 : Int32), rv b13, rv bo15] [(.int (2 : Int32)), (.ref b2), (.int (2 : Int32)), (.ref b13), (.ref bo15)])) _
      refine X23.baloadBytes hx (j := (2 : Int32)) (v := (.int (p2.toInt8.toInt32))) (by rw [hh23]; exact Ar24.1) (State.isArrayOf_alike hZ.alike Ar24.2.1) Ar24.2.2 hin24 hat24 (g := (mkF m 163 #[iv p0, iv p1, iv p2, iv p3, iv p4, rv b2, iv (0 : Int32), rv b13, rv bo15] [(.int (2 : Int32)), (.ref b2), (.int (2 : Int32)), (.ref b13), (.ref bo15)])) rfl rfl (hb hby at_163) _ ?_
      exact kt
    obtain ⟨_, _, ⟨T26, L26, k26, n26⟩, -, X26, ⟨Lc26, hQ26, l26, y26, z26⟩, st26⟩ := Jvm.LawKit.callS X23 hx (y := (⟨"com/example/ereikoussa/ereikoussa/dns/DnsNameLowerCasePinLaw", "at", "([B[BIB)Z"⟩ : MethodName)) hown (mvT hZ (hw _ (List.mem_of_getElem? (i := 14) rfl))) (mvT hZ (hw _ (List.mem_of_getElem? (i := 15) rfl))) (mvT hZ (hw _ (List.mem_of_getElem? (i := 16) rfl))) (mvT hZ (hw _ (List.mem_of_getElem? (i := 17) rfl))) (by decide) (backOf (W := 0) (rm2 l Z a0 hw [] bo15 b13 (2 : Int32) (p2.toInt8.toInt32) k13 k13 (0 : Int32) [] [] (.int (0 : Int32)) (.int (0 : Int32)) T15.heap n0 (Nat.le_trans Z0 K15.1) Vp15 (V_b13.keep Kc15 nin0) (by decide) (fun q => absurd q (by decide))) hZ (hw _ (List.mem_of_getElem? (i := 17) rfl)) (hw _ (List.mem_of_getElem? (i := 16) rfl)) (by decide) (by decide)) (g := (mkF m 164 #[iv p0, iv p1, iv p2, iv p3, iv p4, rv b2, iv (0 : Int32), rv b13, rv bo15] [(.int (p2.toInt8.toInt32)), (.int (2 : Int32)), (.ref b13), (.ref bo15)])) rfl (by rw [hml]; rfl) (argsL := [(.ref bo15), (.ref b13), (.int (2 : Int32)), (.int (p2.toInt8.toInt32))]) (rest := []) (lenOf pd4 rfl) rfl (by show 2 * 0 + _ ≤ _; exact Nat.le_of_eq rfl) (hb hby at_164) (fun _ _ => ⟨rfl, hh23, (by decide : 3 + 0 ≤ _), (by decide : 8 + 0 ≤ _)⟩)
    dsimp only [Pt.U, Pt.locs, Pt.cells, Pt.slots] at X26 l26 y26 z26 st26 hQ26
    subst l26 y26 z26
    obtain ⟨rfl, N26q, hh26⟩ := hQ26
    have N26 := Fr.app N23 N26q
    obtain ⟨cl27, Ar27, q27, S27, M27, H27, G27⟩ := id ((V10.ext E13).keep Kc15 nin0)
    have hin27 : ¬ ((3 : Int32) < 0 ∨ cl27.slots.size ≤ ((3 : Int32)).toNatClampNeg) := inb_of S27 ⟨by decide, by decide⟩
    have hat27 : cl27.slots[((3 : Int32)).toNatClampNeg]? = some (.int (p3.toInt8.toInt32)) := H27.at hin27 rfl
    have pre28 : ∀ t, Steps p.tables e below (T26.setTop (mkF m 179 #[iv p0, iv p1, iv p2, iv p3, iv p4, rv b2, iv (0 : Int32), rv b13, rv bo15] [(.int (p3.toInt8.toInt32)), (.int (3 : Int32)), (.ref b13), (.ref bo15)])) t → Steps p.tables e below (s₁.setTop (entryFrame m #[(.int p0), (.int p1), (.int p2), (.int p3), (.int p4)] maxLocals)) t := by
      intro t kt
      refine pre25 _ ?_
      show Steps p.tables e below (T23.setTop (mkF m 164 #[iv p0, iv p1, iv p2, iv p3, iv p4, rv b2, iv (0 : Int32), rv b13, rv bo15] [(.int (p2.toInt8.toInt32)), (.int (2 : Int32)), (.ref b13), (.ref bo15)])) _
      refine st26 _ ?_
      show Steps p.tables e below (T26.setTop (mkF m 167 #[iv p0, iv p1, iv p2, iv p3, iv p4, rv b2, iv (0 : Int32), rv b13, rv bo15] [(.int (1 : Int32))])) _
      refine XS.ifNo X26.here hx rfl (hb hby at_167) rfl ((if0 _ _).trans (feq (by decide)).1) ?_
      show Steps p.tables e below (T26.setTop (mkF m 170 #[iv p0, iv p1, iv p2, iv p3, iv p4, rv b2, iv (0 : Int32), rv b13, rv bo15] [])) _
      refine XS.aload X26.here hx rfl (hb hby at_170) rfl rfl ?_
      show Steps p.tables e below (T26.setTop (mkF m 172 #[iv p0, iv p1, iv p2, iv p3, iv p4, rv b2, iv (0 : Int32), rv b13, rv bo15] [(.ref bo15)])) _
      refine XS.aload X26.here hx rfl (hb hby at_172) rfl rfl ?_
      show Steps p.tables e below (T26.setTop (mkF m 174 #[iv p0, iv p1, iv p2, iv p3, iv p4, rv b2, iv (0 : Int32), rv b13, rv bo15] [(.ref b13), (.ref bo15)])) _
      refine XS.iconst X26.here hx rfl (hb hby at_174) ?_
      show Steps p.tables e below (T26.setTop (mkF m 175 #[iv p0, iv p1, iv p2, iv p3, iv p4, rv b2, iv (0 : Int32), rv b13, rv bo15] [(.int (3 : Int32)), (.ref b13), (.ref bo15)])) _
      refine XS.aload X26.here hx rfl (hb hby at_175) rfl rfl ?_
      show Steps p.tables e below (T26.setTop (mkF m 177 #[iv p0, iv p1, iv p2, iv p3, iv p4, rv b2, iv (0 : Int32), rv b13, rv bo15] [(.ref b2), (.int (3 : Int32)), (.ref b13), (.ref bo15)])) _
      refine XS.iconst X26.here hx rfl (hb hby at_177) ?_
      show Steps p.tables e below (T26.setTop (mkF m 178 #[iv p0, iv p1, iv p2, iv p3, iv p4, rv b2, iv (0 : Int32), rv b13, rv bo15] [(.int (3 : Int32)), (.ref b2), (.int (3 : Int32)), (.ref b13), (.ref bo15)])) _
      refine X26.baloadBytes hx (j := (3 : Int32)) (v := (.int (p3.toInt8.toInt32))) (by rw [hh26]; exact Ar27.1) (State.isArrayOf_alike hZ.alike Ar27.2.1) Ar27.2.2 hin27 hat27 (g := (mkF m 178 #[iv p0, iv p1, iv p2, iv p3, iv p4, rv b2, iv (0 : Int32), rv b13, rv bo15] [(.int (3 : Int32)), (.ref b2), (.int (3 : Int32)), (.ref b13), (.ref bo15)])) rfl rfl (hb hby at_178) _ ?_
      exact kt
    obtain ⟨_, _, ⟨T29, L29, k29, n29⟩, -, X29, ⟨Lc29, hQ29, l29, y29, z29⟩, st29⟩ := Jvm.LawKit.callS X26 hx (y := (⟨"com/example/ereikoussa/ereikoussa/dns/DnsNameLowerCasePinLaw", "at", "([B[BIB)Z"⟩ : MethodName)) hown (mvT hZ (hw _ (List.mem_of_getElem? (i := 14) rfl))) (mvT hZ (hw _ (List.mem_of_getElem? (i := 15) rfl))) (mvT hZ (hw _ (List.mem_of_getElem? (i := 16) rfl))) (mvT hZ (hw _ (List.mem_of_getElem? (i := 17) rfl))) (by decide) (backOf (W := 0) (rm2 l Z a0 hw [] bo15 b13 (3 : Int32) (p3.toInt8.toInt32) k13 k13 (0 : Int32) [] [] (.int (0 : Int32)) (.int (0 : Int32)) T15.heap n0 (Nat.le_trans Z0 K15.1) Vp15 (V_b13.keep Kc15 nin0) (by decide) (fun q => absurd q (by decide))) hZ (hw _ (List.mem_of_getElem? (i := 17) rfl)) (hw _ (List.mem_of_getElem? (i := 16) rfl)) (by decide) (by decide)) (g := (mkF m 179 #[iv p0, iv p1, iv p2, iv p3, iv p4, rv b2, iv (0 : Int32), rv b13, rv bo15] [(.int (p3.toInt8.toInt32)), (.int (3 : Int32)), (.ref b13), (.ref bo15)])) rfl (by rw [hml]; rfl) (argsL := [(.ref bo15), (.ref b13), (.int (3 : Int32)), (.int (p3.toInt8.toInt32))]) (rest := []) (lenOf pd4 rfl) rfl (by show 2 * 0 + _ ≤ _; exact Nat.le_of_eq rfl) (hb hby at_179) (fun _ _ => ⟨rfl, hh26, (by decide : 3 + 0 ≤ _), (by decide : 8 + 0 ≤ _)⟩)
    dsimp only [Pt.U, Pt.locs, Pt.cells, Pt.slots] at X29 l29 y29 z29 st29 hQ29
    subst l29 y29 z29
    obtain ⟨rfl, N29q, hh29⟩ := hQ29
    have N29 := Fr.app N26 N29q
    have pre30 : ∀ t, Steps p.tables e below (T29.setTop (mkF m 190 #[iv p0, iv p1, iv p2, iv p3, iv p4, rv b2, iv (0 : Int32), rv b13, rv bo15] [(.int (1 : Int32))])) t → Steps p.tables e below (s₁.setTop (entryFrame m #[(.int p0), (.int p1), (.int p2), (.int p3), (.int p4)] maxLocals)) t := by
      intro t kt
      refine pre28 _ ?_
      show Steps p.tables e below (T26.setTop (mkF m 179 #[iv p0, iv p1, iv p2, iv p3, iv p4, rv b2, iv (0 : Int32), rv b13, rv bo15] [(.int (p3.toInt8.toInt32)), (.int (3 : Int32)), (.ref b13), (.ref bo15)])) _
      refine st29 _ ?_
      show Steps p.tables e below (T29.setTop (mkF m 182 #[iv p0, iv p1, iv p2, iv p3, iv p4, rv b2, iv (0 : Int32), rv b13, rv bo15] [(.int (1 : Int32))])) _
      refine XS.ifNo X29.here hx rfl (hb hby at_182) rfl ((if0 _ _).trans (feq (by decide)).1) ?_
      show Steps p.tables e below (T29.setTop (mkF m 185 #[iv p0, iv p1, iv p2, iv p3, iv p4, rv b2, iv (0 : Int32), rv b13, rv bo15] [])) _
      refine XS.iconst X29.here hx rfl (hb hby at_185) ?_
      show Steps p.tables e below (T29.setTop (mkF m 186 #[iv p0, iv p1, iv p2, iv p3, iv p4, rv b2, iv (0 : Int32), rv b13, rv bo15] [(.int (1 : Int32))])) _
      refine XS.goto X29.here hx rfl (pc0 := 186) (pc' := 190) rfl (hb hby at_186) (by decide) (by decide) ?_
      exact kt
    obtain ⟨fs, hr, hrun, hended, hW, hsame⟩ := X29.leave (v := some (.int (1 : Int32))) (fun h => by rw [Bd.returns] at h; cases h)
    refine ⟨_, _, pre30 _ ?_, hrun, hended, _, _, rfl, ?_, ⟨_, rfl⟩, hW, hsame.mono (by decide) (by decide)⟩
    · show Steps p.tables e below (T29.setTop (mkF m 190 #[iv p0, iv p1, iv p2, iv p3, iv p4, rv b2, iv (0 : Int32), rv b13, rv bo15] [(.int (1 : Int32))])) _
      exact retN X29 hx (t := .boolean) Bd.returns (by simp) (hb hby at_190) hr
    · show Q0 Z p0 p1 p2 p3 p4 h0 n0 _ T29.heap _
      rw [hh29]
      exact ⟨rfl, N29⟩
  · have pre31 : ∀ t, Steps p.tables e below (T10.setTop (mkF m 36 #[iv p0, iv p1, iv p2, iv p3, iv p4, rv b2, iv (1 : Int32), .unset, .unset] [(.int (1 : Int32))])) t → Steps p.tables e below (s₁.setTop (entryFrame m #[(.int p0), (.int p1), (.int p2), (.int p3), (.int p4)] maxLocals)) t := by
      intro t kt
      refine pre11 _ ?_
      show Steps p.tables e below (T10.setTop (mkF m 34 #[iv p0, iv p1, iv p2, iv p3, iv p4, rv b2, iv ((p4 &&& (7 : Int32)) % (5 : Int32)), .unset, .unset] [])) _
      rw [h5]
      show Steps p.tables e below (T10.setTop (mkF m 34 #[iv p0, iv p1, iv p2, iv p3, iv p4, rv b2, iv (1 : Int32), .unset, .unset] [])) _
      refine XS.iload X10.here hx rfl (hb hby at_34) rfl ?_
      exact kt
    obtain ⟨T32, h32, k32, X32, e32, E32, A32, Ex32, st32⟩ := newPE X10 hx hZ (hw _ (List.mem_of_getElem? (i := 0) rfl)) e10 (g := (mkF m 36 #[iv p0, iv p1, iv p2, iv p3, iv p4, rv b2, iv (1 : Int32), .unset, .unset] [(.int (1 : Int32))])) rfl (hb hby at_36) rfl (by decide) (cap := 1) (by decide) (by decide) (by decide) (by decide) (ad := "[B") rfl
    obtain ⟨b32, g32⟩ : ∃ z, z = h10.size := ⟨_, rfl⟩
    rw [← g32] at A32 Ex32 st32
    have g_b32 : n0 ≤ b32 := Nat.le_trans (Nat.le_trans Z0 K10.1) (Nat.le_of_eq g32.symm)
    have sz_b32 : h0.size ≤ b32 := Nat.le_trans K10.1 (Nat.le_of_eq g32.symm)
    have V_b32 : Arv Z h32 b32 k32 .byte (1 : Int32) [(.int (0 : Int32))] (.int (0 : Int32)) := (Arv.new A32 (by decide)).pad (pad_rep [] (.int (0 : Int32)) 1)
    have K32 : Keep h0 h32 [] := K10.ext E32
    obtain ⟨cl33, Ar33, q33, S33, M33, H33, G33⟩ := id (V10.ext E32)
    have hin33 : ¬ ((0 : Int32) < 0 ∨ cl33.slots.size ≤ ((0 : Int32)).toNatClampNeg) := inb_of S33 ⟨by decide, by decide⟩
    have hat33 : cl33.slots[((0 : Int32)).toNatClampNeg]? = some (.int (p0.toInt8.toInt32)) := H33.at hin33 rfl
    have pre34 : ∀ t, Steps p.tables e below (T32.setTop (mkF m 52 #[iv p0, iv p1, iv p2, iv p3, iv p4, rv b2, iv (1 : Int32), rv b32, .unset] [(.int (p0.toInt8.toInt32)), (.int (0 : Int32)), (.ref b32)])) t → Steps p.tables e below (s₁.setTop (entryFrame m #[(.int p0), (.int p1), (.int p2), (.int p3), (.int p4)] maxLocals)) t := by
      intro t kt
      refine pre31 _ ?_
      show Steps p.tables e below (T10.setTop (mkF m 36 #[iv p0, iv p1, iv p2, iv p3, iv p4, rv b2, iv (1 : Int32), .unset, .unset] [(.int (1 : Int32))])) _
      refine st32 _ ?_
      show Steps p.tables e below (T32.setTop (mkF m 38 #[iv p0, iv p1, iv p2, iv p3, iv p4, rv b2, iv (1 : Int32), .unset, .unset] [(.ref b32)])) _
      refine XS.astore X32.here hx rfl (hb hby at_38) rfl rfl (l' := #[iv p0, iv p1, iv p2, iv p3, iv p4, rv b2, iv (1 : Int32), rv b32, .unset]) rfl ?_
      show Steps p.tables e below (T32.setTop (mkF m 40 #[iv p0, iv p1, iv p2, iv p3, iv p4, rv b2, iv (1 : Int32), rv b32, .unset] [])) _
      refine XS.iload X32.here hx rfl (hb hby at_40) rfl ?_
      show Steps p.tables e below (T32.setTop (mkF m 42 #[iv p0, iv p1, iv p2, iv p3, iv p4, rv b2, iv (1 : Int32), rv b32, .unset] [(.int (1 : Int32))])) _
      refine XS.ifNo X32.here hx rfl (hb hby at_42) rfl ((if0 _ _).trans (tlt (by decide)).2.2.2) ?_
      show Steps p.tables e below (T32.setTop (mkF m 45 #[iv p0, iv p1, iv p2, iv p3, iv p4, rv b2, iv (1 : Int32), rv b32, .unset] [])) _
      refine XS.aload X32.here hx rfl (hb hby at_45) rfl rfl ?_
      show Steps p.tables e below (T32.setTop (mkF m 47 #[iv p0, iv p1, iv p2, iv p3, iv p4, rv b2, iv (1 : Int32), rv b32, .unset] [(.ref b32)])) _
      refine XS.iconst X32.here hx rfl (hb hby at_47) ?_
      show Steps p.tables e below (T32.setTop (mkF m 48 #[iv p0, iv p1, iv p2, iv p3, iv p4, rv b2, iv (1 : Int32), rv b32, .unset] [(.int (0 : Int32)), (.ref b32)])) _
      refine XS.aload X32.here hx rfl (hb hby at_48) rfl rfl ?_
      show Steps p.tables e below (T32.setTop (mkF m 50 #[iv p0, iv p1, iv p2, iv p3, iv p4, rv b2, iv (1 : Int32), rv b32, .unset] [(.ref b2), (.int (0 : Int32)), (.ref b32)])) _
      refine XS.iconst X32.here hx rfl (hb hby at_50) ?_
      show Steps p.tables e below (T32.setTop (mkF m 51 #[iv p0, iv p1, iv p2, iv p3, iv p4, rv b2, iv (1 : Int32), rv b32, .unset] [(.int (0 : Int32)), (.ref b2), (.int (0 : Int32)), (.ref b32)])) _
      refine X32.baloadBytes hx (j := (0 : Int32)) (v := (.int (p0.toInt8.toInt32))) (by rw [e32]; exact Ar33.1) (State.isArrayOf_alike hZ.alike Ar33.2.1) Ar33.2.2 hin33 hat33 (g := (mkF m 51 #[iv p0, iv p1, iv p2, iv p3, iv p4, rv b2, iv (1 : Int32), rv b32, .unset] [(.int (0 : Int32)), (.ref b2), (.int (0 : Int32)), (.ref b32)])) rfl rfl (hb hby at_51) _ ?_
      exact kt
    obtain ⟨cl35, Ar35, q35, S35, M35, H35, G35⟩ := id V_b32
    have hin35 : ¬ ((0 : Int32) < 0 ∨ cl35.slots.size ≤ ((0 : Int32)).toNatClampNeg) := inb_of S35 ⟨by decide, by decide⟩
    obtain ⟨T35, h35, X35, e35, W35, st35⟩ := stB X32 hx hZ e32 Ar35 (j := (0 : Int32)) hin35 (g := (mkF m 52 #[iv p0, iv p1, iv p2, iv p3, iv p4, rv b2, iv (1 : Int32), rv b32, .unset] [(.int (p0.toInt8.toInt32)), (.int (0 : Int32)), (.ref b32)])) rfl rfl (hb hby at_52)
    have nn35 : nar .byte (p0.toInt8.toInt32) = (p0.toInt8.toInt32) := (own_nb _)
    rw [nn35] at W35
    have V35 : Arv Z h35 b32 k32 .byte (1 : Int32) [(.int (p0.toInt8.toInt32))] (.int (0 : Int32)) := Arv.set Ar35 q35 S35 M35 H35 G35 (own_fb nn35) W35 0 rfl (Nat.le_of_ble_eq_true rfl)
    have K35 : Keep h0 h35 [] := K32.wr W35 (Or.inr sz_b32)
    have N35 := Fr.snoc X35 N10 g_b32
    have pre36 : ∀ t, Steps p.tables e below (T35.setTop (mkF m 97 #[iv p0, iv p1, iv p2, iv p3, iv p4, rv b2, iv (1 : Int32), rv b32, .unset] [(.ref b32)])) t → Steps p.tables e below (s₁.setTop (entryFrame m #[(.int p0), (.int p1), (.int p2), (.int p3), (.int p4)] maxLocals)) t := by
      intro t kt
      refine pre34 _ ?_
      show Steps p.tables e below (T32.setTop (mkF m 52 #[iv p0, iv p1, iv p2, iv p3, iv p4, rv b2, iv (1 : Int32), rv b32, .unset] [(.int (p0.toInt8.toInt32)), (.int (0 : Int32)), (.ref b32)])) _
      refine st35 _ ?_
      show Steps p.tables e below (T35.setTop (mkF m 53 #[iv p0, iv p1, iv p2, iv p3, iv p4, rv b2, iv (1 : Int32), rv b32, .unset] [])) _
      refine XS.iload X35.here hx rfl (hb hby at_53) rfl ?_
      show Steps p.tables e below (T35.setTop (mkF m 55 #[iv p0, iv p1, iv p2, iv p3, iv p4, rv b2, iv (1 : Int32), rv b32, .unset] [(.int (1 : Int32))])) _
      refine XS.iconst X35.here hx rfl (hb hby at_55) ?_
      show Steps p.tables e below (T35.setTop (mkF m 56 #[iv p0, iv p1, iv p2, iv p3, iv p4, rv b2, iv (1 : Int32), rv b32, .unset] [(.int (1 : Int32)), (.int (1 : Int32))])) _
      refine XS.icmpYes X35.here hx rfl (pc0 := 56) (pc' := 67) rfl (hb hby at_56) rfl (flt (by decide)).2.2.2 (by decide) (by decide) ?_
      show Steps p.tables e below (T35.setTop (mkF m 67 #[iv p0, iv p1, iv p2, iv p3, iv p4, rv b2, iv (1 : Int32), rv b32, .unset] [])) _
      refine XS.iload X35.here hx rfl (hb hby at_67) rfl ?_
      show Steps p.tables e below (T35.setTop (mkF m 69 #[iv p0, iv p1, iv p2, iv p3, iv p4, rv b2, iv (1 : Int32), rv b32, .unset] [(.int (1 : Int32))])) _
      refine XS.iconst X35.here hx rfl (hb hby at_69) ?_
      show Steps p.tables e below (T35.setTop (mkF m 70 #[iv p0, iv p1, iv p2, iv p3, iv p4, rv b2, iv (1 : Int32), rv b32, .unset] [(.int (2 : Int32)), (.int (1 : Int32))])) _
      refine XS.icmpYes X35.here hx rfl (pc0 := 70) (pc' := 81) rfl (hb hby at_70) rfl (flt (by decide)).2.2.2 (by decide) (by decide) ?_
      show Steps p.tables e below (T35.setTop (mkF m 81 #[iv p0, iv p1, iv p2, iv p3, iv p4, rv b2, iv (1 : Int32), rv b32, .unset] [])) _
      refine XS.iload X35.here hx rfl (hb hby at_81) rfl ?_
      show Steps p.tables e below (T35.setTop (mkF m 83 #[iv p0, iv p1, iv p2, iv p3, iv p4, rv b2, iv (1 : Int32), rv b32, .unset] [(.int (1 : Int32))])) _
      refine XS.iconst X35.here hx rfl (hb hby at_83) ?_
      show Steps p.tables e below (T35.setTop (mkF m 84 #[iv p0, iv p1, iv p2, iv p3, iv p4, rv b2, iv (1 : Int32), rv b32, .unset] [(.int (3 : Int32)), (.int (1 : Int32))])) _
      refine XS.icmpYes X35.here hx rfl (pc0 := 84) (pc' := 95) rfl (hb hby at_84) rfl (flt (by decide)).2.2.2 (by decide) (by decide) ?_
      show Steps p.tables e below (T35.setTop (mkF m 95 #[iv p0, iv p1, iv p2, iv p3, iv p4, rv b2, iv (1 : Int32), rv b32, .unset] [])) _
      refine XS.aload X35.here hx rfl (hb hby at_95) rfl rfl ?_
      exact kt
    obtain ⟨_, _, ⟨T37, L37, k37, n37⟩, -, X37, ⟨Lc37, hQ37, l37, y37, z37⟩, st37⟩ := Jvm.LawKit.callS X35 hx (y := (⟨"com/example/ereikoussa/ereikoussa/dns/DnsName", "lowerCase", "([B)[B"⟩ : MethodName)) hown (mvT hZ (hw _ (List.mem_of_getElem? (i := 1) rfl))) (mvT hZ (hw _ (List.mem_of_getElem? (i := 2) rfl))) (mvT hZ (hw _ (List.mem_of_getElem? (i := 3) rfl))) (mvT hZ (hw _ (List.mem_of_getElem? (i := 4) rfl))) (by decide) (backOf (W := 0) (rm1 l Z a0 hw [] b32 k32 (fun k => ([(p0.toInt8.toInt32)] : List Int32).getD k 0) 1 h35 n0 (Nat.le_trans Z0 K35.1) (by decide) V35 (Ex32.wr W35)) hZ (hw _ (List.mem_of_getElem? (i := 4) rfl)) (hw _ (List.mem_of_getElem? (i := 3) rfl)) (by decide) (by decide)) (g := (mkF m 97 #[iv p0, iv p1, iv p2, iv p3, iv p4, rv b2, iv (1 : Int32), rv b32, .unset] [(.ref b32)])) rfl (by rw [hml]; rfl) (argsL := [(.ref b32)]) (rest := []) (lenOf pd3 rfl) rfl (by show 2 * 0 + _ ≤ _; exact Nat.le_of_eq rfl) (hb hby at_97) (fun _ _ => ⟨rfl, e35, (by decide : 2 + 1 ≤ _), (by decide : 5 + 4 ≤ _)⟩)
    dsimp only [Pt.U, Pt.locs, Pt.cells, Pt.slots] at X37 l37 y37 z37 st37 hQ37
    subst l37 y37 z37
    obtain ⟨bo37, rfl, N37q, Kc37, Vo37⟩ := hQ37
    have N37 := Fr.app N35 N37q
    have K37 : Keep h0 T37.heap [] := K35.trans Kc37 all0
    have Vp37 : Arv Z T37.heap bo37 k32 .byte (1 : Int32) [(.int (own_lowb (p0.toInt8.toInt32)))] (.int (0 : Int32)) := Vo37
    obtain ⟨cl38, Ar38, -, S38, M38, -, -⟩ := id Vp37
    obtain ⟨cl39, Ar39, -, S39, M39, -, -⟩ := id (V35.keep Kc37 nin0)
    obtain ⟨cl40, Ar40, q40, S40, M40, H40, G40⟩ := id (((V10.ext E32).other W35 (Nat.ne_of_lt (Nat.lt_of_lt_of_le V10.lt (Nat.le_of_eq g32.symm)))).keep Kc37 nin0)
    have hin40 : ¬ ((0 : Int32) < 0 ∨ cl40.slots.size ≤ ((0 : Int32)).toNatClampNeg) := inb_of S40 ⟨by decide, by decide⟩
    have hat40 : cl40.slots[((0 : Int32)).toNatClampNeg]? = some (.int (p0.toInt8.toInt32)) := H40.at hin40 rfl
    have pre41 : ∀ t, Steps p.tables e below (T37.setTop (mkF m 134 #[iv p0, iv p1, iv p2, iv p3, iv p4, rv b2, iv (1 : Int32), rv b32, rv bo37] [(.int (p0.toInt8.toInt32)), (.int (0 : Int32)), (.ref b32), (.ref bo37)])) t → Steps p.tables e below (s₁.setTop (entryFrame m #[(.int p0), (.int p1), (.int p2), (.int p3), (.int p4)] maxLocals)) t := by
      intro t kt
      refine pre36 _ ?_
      show Steps p.tables e below (T35.setTop (mkF m 97 #[iv p0, iv p1, iv p2, iv p3, iv p4, rv b2, iv (1 : Int32), rv b32, .unset] [(.ref b32)])) _
      refine st37 _ ?_
      show Steps p.tables e below (T37.setTop (mkF m 100 #[iv p0, iv p1, iv p2, iv p3, iv p4, rv b2, iv (1 : Int32), rv b32, .unset] [(.ref bo37)])) _
      refine XS.astore X37.here hx rfl (hb hby at_100) rfl rfl (l' := #[iv p0, iv p1, iv p2, iv p3, iv p4, rv b2, iv (1 : Int32), rv b32, rv bo37]) rfl ?_
      show Steps p.tables e below (T37.setTop (mkF m 102 #[iv p0, iv p1, iv p2, iv p3, iv p4, rv b2, iv (1 : Int32), rv b32, rv bo37] [])) _
      refine XS.aload X37.here hx rfl (hb hby at_102) rfl rfl ?_
      show Steps p.tables e below (T37.setTop (mkF m 104 #[iv p0, iv p1, iv p2, iv p3, iv p4, rv b2, iv (1 : Int32), rv b32, rv bo37] [(.ref bo37)])) _
      refine XS.ifnullNo X37.here hx rfl (hb hby at_104) rfl ?_
      show Steps p.tables e below (T37.setTop (mkF m 107 #[iv p0, iv p1, iv p2, iv p3, iv p4, rv b2, iv (1 : Int32), rv b32, rv bo37] [])) _
      refine XS.aload X37.here hx rfl (hb hby at_107) rfl rfl ?_
      show Steps p.tables e below (T37.setTop (mkF m 109 #[iv p0, iv p1, iv p2, iv p3, iv p4, rv b2, iv (1 : Int32), rv b32, rv bo37] [(.ref bo37)])) _
      refine X37.arraylength hx Ar38.1 (State.isArrayOf_alike hZ.alike Ar38.2.1) (g := (mkF m 109 #[iv p0, iv p1, iv p2, iv p3, iv p4, rv b2, iv (1 : Int32), rv b32, rv bo37] [(.ref bo37)])) rfl rfl (hb hby at_109) _ ?_
      rw [len_of S38 M38]
      show Steps p.tables e below (T37.setTop (mkF m 110 #[iv p0, iv p1, iv p2, iv p3, iv p4, rv b2, iv (1 : Int32), rv b32, rv bo37] [(.int (1 : Int32))])) _
      refine XS.iload X37.here hx rfl (hb hby at_110) rfl ?_
      show Steps p.tables e below (T37.setTop (mkF m 112 #[iv p0, iv p1, iv p2, iv p3, iv p4, rv b2, iv (1 : Int32), rv b32, rv bo37] [(.int (1 : Int32)), (.int (1 : Int32))])) _
      refine XS.icmpNo X37.here hx rfl (hb hby at_112) rfl (teq (by decide)).2 ?_
      show Steps p.tables e below (T37.setTop (mkF m 115 #[iv p0, iv p1, iv p2, iv p3, iv p4, rv b2, iv (1 : Int32), rv b32, rv bo37] [])) _
      refine XS.aload X37.here hx rfl (hb hby at_115) rfl rfl ?_
      show Steps p.tables e below (T37.setTop (mkF m 117 #[iv p0, iv p1, iv p2, iv p3, iv p4, rv b2, iv (1 : Int32), rv b32, rv bo37] [(.ref b32)])) _
      refine X37.arraylength hx Ar39.1 (State.isArrayOf_alike hZ.alike Ar39.2.1) (g := (mkF m 117 #[iv p0, iv p1, iv p2, iv p3, iv p4, rv b2, iv (1 : Int32), rv b32, rv bo37] [(.ref b32)])) rfl rfl (hb hby at_117) _ ?_
      rw [len_of S39 M39]
      show Steps p.tables e below (T37.setTop (mkF m 118 #[iv p0, iv p1, iv p2, iv p3, iv p4, rv b2, iv (1 : Int32), rv b32, rv bo37] [(.int (1 : Int32))])) _
      refine XS.iload X37.here hx rfl (hb hby at_118) rfl ?_
      show Steps p.tables e below (T37.setTop (mkF m 120 #[iv p0, iv p1, iv p2, iv p3, iv p4, rv b2, iv (1 : Int32), rv b32, rv bo37] [(.int (1 : Int32)), (.int (1 : Int32))])) _
      refine XS.icmpYes X37.here hx rfl (pc0 := 120) (pc' := 125) rfl (hb hby at_120) rfl (teq (by decide)).1 (by decide) (by decide) ?_
      show Steps p.tables e below (T37.setTop (mkF m 125 #[iv p0, iv p1, iv p2, iv p3, iv p4, rv b2, iv (1 : Int32), rv b32, rv bo37] [])) _
      refine XS.aload X37.here hx rfl (hb hby at_125) rfl rfl ?_
      show Steps p.tables e below (T37.setTop (mkF m 127 #[iv p0, iv p1, iv p2, iv p3, iv p4, rv b2, iv (1 : Int32), rv b32, rv bo37] [(.ref bo37)])) _
      refine XS.aload X37.here hx rfl (hb hby at_127) rfl rfl ?_
      show Steps p.tables e below (T37.setTop (mkF m 129 #[iv p0, iv p1, iv p2, iv p3, iv p4, rv b2, iv (1 : Int32), rv b32, rv bo37] [(.ref b32), (.ref bo37)])) _
      refine XS.iconst X37.here hx rfl (hb hby at_129) ?_
      show Steps p.tables e below (T37.setTop (mkF m 130 #[iv p0, iv p1, iv p2, iv p3, iv p4, rv b2, iv (1 : Int32), rv b32, rv bo37] [(.int (0 : Int32)), (.ref b32), (.ref bo37)])) _
      refine XS.aload X37.here hx rfl (hb hby at_130) rfl rfl ?_
      show Steps p.tables e below (T37.setTop (mkF m 132 #[iv p0, iv p1, iv p2, iv p3, iv p4, rv b2, iv (1 : Int32), rv b32, rv bo37] [(.ref b2), (.int (0 : Int32)), (.ref b32), (.ref bo37)])) _
      refine XS.iconst X37.here hx rfl (hb hby at_132) ?_
      show Steps p.tables e below (T37.setTop (mkF m 133 #[iv p0, iv p1, iv p2, iv p3, iv p4, rv b2, iv (1 : Int32), rv b32, rv bo37] [(.int (0 : Int32)), (.ref b2), (.int (0 : Int32)), (.ref b32), (.ref bo37)])) _
      refine X37.baloadBytes hx (j := (0 : Int32)) (v := (.int (p0.toInt8.toInt32))) Ar40.1 (State.isArrayOf_alike hZ.alike Ar40.2.1) Ar40.2.2 hin40 hat40 (g := (mkF m 133 #[iv p0, iv p1, iv p2, iv p3, iv p4, rv b2, iv (1 : Int32), rv b32, rv bo37] [(.int (0 : Int32)), (.ref b2), (.int (0 : Int32)), (.ref b32), (.ref bo37)])) rfl rfl (hb hby at_133) _ ?_
      exact kt
    obtain ⟨_, _, ⟨T42, L42, k42, n42⟩, -, X42, ⟨Lc42, hQ42, l42, y42, z42⟩, st42⟩ := Jvm.LawKit.callS X37 hx (y := (⟨"com/example/ereikoussa/ereikoussa/dns/DnsNameLowerCasePinLaw", "at", "([B[BIB)Z"⟩ : MethodName)) hown (mvT hZ (hw _ (List.mem_of_getElem? (i := 14) rfl))) (mvT hZ (hw _ (List.mem_of_getElem? (i := 15) rfl))) (mvT hZ (hw _ (List.mem_of_getElem? (i := 16) rfl))) (mvT hZ (hw _ (List.mem_of_getElem? (i := 17) rfl))) (by decide) (backOf (W := 0) (rm2 l Z a0 hw [] bo37 b32 (0 : Int32) (p0.toInt8.toInt32) k32 k32 (1 : Int32) [(.int (own_lowb (p0.toInt8.toInt32)))] [(.int (p0.toInt8.toInt32))] (.int (0 : Int32)) (.int (0 : Int32)) T37.heap n0 (Nat.le_trans Z0 K37.1) Vp37 (V35.keep Kc37 nin0) (by decide) (fun _ => ⟨congrArg Value.int (own_low_eq _ (own_nb _)).symm, rfl⟩)) hZ (hw _ (List.mem_of_getElem? (i := 17) rfl)) (hw _ (List.mem_of_getElem? (i := 16) rfl)) (by decide) (by decide)) (g := (mkF m 134 #[iv p0, iv p1, iv p2, iv p3, iv p4, rv b2, iv (1 : Int32), rv b32, rv bo37] [(.int (p0.toInt8.toInt32)), (.int (0 : Int32)), (.ref b32), (.ref bo37)])) rfl (by rw [hml]; rfl) (argsL := [(.ref bo37), (.ref b32), (.int (0 : Int32)), (.int (p0.toInt8.toInt32))]) (rest := []) (lenOf pd4 rfl) rfl (by show 2 * 0 + _ ≤ _; exact Nat.le_of_eq rfl) (hb hby at_134) (fun _ _ => ⟨rfl, rfl, (by decide : 3 + 0 ≤ _), (by decide : 9 + 0 ≤ _)⟩)
    dsimp only [Pt.U, Pt.locs, Pt.cells, Pt.slots] at X42 l42 y42 z42 st42 hQ42
    subst l42 y42 z42
    obtain ⟨rfl, N42q, hh42⟩ := hQ42
    have N42 := Fr.app N37 N42q
    obtain ⟨cl43, Ar43, q43, S43, M43, H43, G43⟩ := id (((V10.ext E32).other W35 (Nat.ne_of_lt (Nat.lt_of_lt_of_le V10.lt (Nat.le_of_eq g32.symm)))).keep Kc37 nin0)
    have hin43 : ¬ ((1 : Int32) < 0 ∨ cl43.slots.size ≤ ((1 : Int32)).toNatClampNeg) := inb_of S43 ⟨by decide, by decide⟩
    have hat43 : cl43.slots[((1 : Int32)).toNatClampNeg]? = some (.int (p1.toInt8.toInt32)) := H43.at hin43 rfl
    have pre44 : ∀ t, Steps p.tables e below (T42.setTop (mkF m 149 #[iv p0, iv p1, iv p2, iv p3, iv p4, rv b2, iv (1 : Int32), rv b32, rv bo37] [(.int (p1.toInt8.toInt32)), (.int (1 : Int32)), (.ref b32), (.ref bo37)])) t → Steps p.tables e below (s₁.setTop (entryFrame m #[(.int p0), (.int p1), (.int p2), (.int p3), (.int p4)] maxLocals)) t := by
      intro t kt
      refine pre41 _ ?_
      show Steps p.tables e below (T37.setTop (mkF m 134 #[iv p0, iv p1, iv p2, iv p3, iv p4, rv b2, iv (1 : Int32), rv b32, rv bo37] [(.int (p0.toInt8.toInt32)), (.int (0 : Int32)), (.ref b32), (.ref bo37)])) _
      refine st42 _ ?_
      show Steps p.tables e below (T42.setTop (mkF m 137 #[iv p0, iv p1, iv p2, iv p3, iv p4, rv b2, iv (1 : Int32), rv b32, rv bo37] [(.int (1 : Int32))])) _
      refine XS.ifNo X42.here hx rfl (hb hby at_137) rfl ((if0 _ _).trans (feq (by decide)).1) ?_
      show Steps p.tables e below (T42.setTop (mkF m 140 #[iv p0, iv p1, iv p2, iv p3, iv p4, rv b2, iv (1 : Int32), rv b32, rv bo37] [])) _
      refine XS.aload X42.here hx rfl (hb hby at_140) rfl rfl ?_
      show Steps p.tables e below (T42.setTop (mkF m 142 #[iv p0, iv p1, iv p2, iv p3, iv p4, rv b2, iv (1 : Int32), rv b32, rv bo37] [(.ref bo37)])) _
      refine XS.aload X42.here hx rfl (hb hby at_142) rfl rfl ?_
      show Steps p.tables e below (T42.setTop (mkF m 144 #[iv p0, iv p1, iv p2, iv p3, iv p4, rv b2, iv (1 : Int32), rv b32, rv bo37] [(.ref b32), (.ref bo37)])) _
      refine XS.iconst X42.here hx rfl (hb hby at_144) ?_
      show Steps p.tables e below (T42.setTop (mkF m 145 #[iv p0, iv p1, iv p2, iv p3, iv p4, rv b2, iv (1 : Int32), rv b32, rv bo37] [(.int (1 : Int32)), (.ref b32), (.ref bo37)])) _
      refine XS.aload X42.here hx rfl (hb hby at_145) rfl rfl ?_
      show Steps p.tables e below (T42.setTop (mkF m 147 #[iv p0, iv p1, iv p2, iv p3, iv p4, rv b2, iv (1 : Int32), rv b32, rv bo37] [(.ref b2), (.int (1 : Int32)), (.ref b32), (.ref bo37)])) _
      refine XS.iconst X42.here hx rfl (hb hby at_147) ?_
      show Steps p.tables e below (T42.setTop (mkF m 148 #[iv p0, iv p1, iv p2, iv p3, iv p4, rv b2, iv (1 : Int32), rv b32, rv bo37] [(.int (1 : Int32)), (.ref b2), (.int (1 : Int32)), (.ref b32), (.ref bo37)])) _
      refine X42.baloadBytes hx (j := (1 : Int32)) (v := (.int (p1.toInt8.toInt32))) (by rw [hh42]; exact Ar43.1) (State.isArrayOf_alike hZ.alike Ar43.2.1) Ar43.2.2 hin43 hat43 (g := (mkF m 148 #[iv p0, iv p1, iv p2, iv p3, iv p4, rv b2, iv (1 : Int32), rv b32, rv bo37] [(.int (1 : Int32)), (.ref b2), (.int (1 : Int32)), (.ref b32), (.ref bo37)])) rfl rfl (hb hby at_148) _ ?_
      exact kt
    obtain ⟨_, _, ⟨T45, L45, k45, n45⟩, -, X45, ⟨Lc45, hQ45, l45, y45, z45⟩, st45⟩ := Jvm.LawKit.callS X42 hx (y := (⟨"com/example/ereikoussa/ereikoussa/dns/DnsNameLowerCasePinLaw", "at", "([B[BIB)Z"⟩ : MethodName)) hown (mvT hZ (hw _ (List.mem_of_getElem? (i := 14) rfl))) (mvT hZ (hw _ (List.mem_of_getElem? (i := 15) rfl))) (mvT hZ (hw _ (List.mem_of_getElem? (i := 16) rfl))) (mvT hZ (hw _ (List.mem_of_getElem? (i := 17) rfl))) (by decide) (backOf (W := 0) (rm2 l Z a0 hw [] bo37 b32 (1 : Int32) (p1.toInt8.toInt32) k32 k32 (1 : Int32) [(.int (own_lowb (p0.toInt8.toInt32)))] [(.int (p0.toInt8.toInt32))] (.int (0 : Int32)) (.int (0 : Int32)) T37.heap n0 (Nat.le_trans Z0 K37.1) Vp37 (V35.keep Kc37 nin0) (by decide) (fun q => absurd q (by decide))) hZ (hw _ (List.mem_of_getElem? (i := 17) rfl)) (hw _ (List.mem_of_getElem? (i := 16) rfl)) (by decide) (by decide)) (g := (mkF m 149 #[iv p0, iv p1, iv p2, iv p3, iv p4, rv b2, iv (1 : Int32), rv b32, rv bo37] [(.int (p1.toInt8.toInt32)), (.int (1 : Int32)), (.ref b32), (.ref bo37)])) rfl (by rw [hml]; rfl) (argsL := [(.ref bo37), (.ref b32), (.int (1 : Int32)), (.int (p1.toInt8.toInt32))]) (rest := []) (lenOf pd4 rfl) rfl (by show 2 * 0 + _ ≤ _; exact Nat.le_of_eq rfl) (hb hby at_149) (fun _ _ => ⟨rfl, hh42, (by decide : 3 + 0 ≤ _), (by decide : 9 + 0 ≤ _)⟩)
    dsimp only [Pt.U, Pt.locs, Pt.cells, Pt.slots] at X45 l45 y45 z45 st45 hQ45
    subst l45 y45 z45
    obtain ⟨rfl, N45q, hh45⟩ := hQ45
    have N45 := Fr.app N42 N45q
    obtain ⟨cl46, Ar46, q46, S46, M46, H46, G46⟩ := id (((V10.ext E32).other W35 (Nat.ne_of_lt (Nat.lt_of_lt_of_le V10.lt (Nat.le_of_eq g32.symm)))).keep Kc37 nin0)
    have hin46 : ¬ ((2 : Int32) < 0 ∨ cl46.slots.size ≤ ((2 : Int32)).toNatClampNeg) := inb_of S46 ⟨by decide, by decide⟩
    have hat46 : cl46.slots[((2 : Int32)).toNatClampNeg]? = some (.int (p2.toInt8.toInt32)) := H46.at hin46 rfl
    have pre47 : ∀ t, Steps p.tables e below (T45.setTop (mkF m 164 #[iv p0, iv p1, iv p2, iv p3, iv p4, rv b2, iv (1 : Int32), rv b32, rv bo37] [(.int (p2.toInt8.toInt32)), (.int (2 : Int32)), (.ref b32), (.ref bo37)])) t → Steps p.tables e below (s₁.setTop (entryFrame m #[(.int p0), (.int p1), (.int p2), (.int p3), (.int p4)] maxLocals)) t := by
      intro t kt
      refine pre44 _ ?_
      show Steps p.tables e below (T42.setTop (mkF m 149 #[iv p0, iv p1, iv p2, iv p3, iv p4, rv b2, iv (1 : Int32), rv b32, rv bo37] [(.int (p1.toInt8.toInt32)), (.int (1 : Int32)), (.ref b32), (.ref bo37)])) _
      refine st45 _ ?_
      show Steps p.tables e below (T45.setTop (mkF m 152 #[iv p0, iv p1, iv p2, iv p3, iv p4, rv b2, iv (1 : Int32), rv b32, rv bo37] [(.int (1 : Int32))])) _
      refine XS.ifNo X45.here hx rfl (hb hby at_152) rfl ((if0 _ _).trans (feq (by decide)).1) ?_
      show Steps p.tables e below (T45.setTop (mkF m 155 #[iv p0, iv p1, iv p2, iv p3, iv p4, rv b2, iv (1 : Int32), rv b32, rv bo37] [])) _
      refine XS.aload X45.here hx rfl (hb hby at_155) rfl rfl ?_
      show Steps p.tables e below (T45.setTop (mkF m 157 #[iv p0, iv p1, iv p2, iv p3, iv p4, rv b2, iv (1 : Int32), rv b32, rv bo37] [(.ref bo37)])) _
      refine XS.aload X45.here hx rfl (hb hby at_157) rfl rfl ?_
      show Steps p.tables e below (T45.setTop (mkF m 159 #[iv p0, iv p1, iv p2, iv p3, iv p4, rv b2, iv (1 : Int32), rv b32, rv bo37] [(.ref b32), (.ref bo37)])) _
      refine XS.iconst X45.here hx rfl (hb hby at_159) ?_
      show Steps p.tables e below (T45.setTop (mkF m 160 #[iv p0, iv p1, iv p2, iv p3, iv p4, rv b2, iv (1 : Int32), rv b32, rv bo37] [(.int (2 : Int32)), (.ref b32), (.ref bo37)])) _
      refine XS.aload X45.here hx rfl (hb hby at_160) rfl rfl ?_
      show Steps p.tables e below (T45.setTop (mkF m 162 #[iv p0, iv p1, iv p2, iv p3, iv p4, rv b2, iv (1 : Int32), rv b32, rv bo37] [(.ref b2), (.int (2 : Int32)), (.ref b32), (.ref bo37)])) _
      refine XS.iconst X45.here hx rfl (hb hby at_162) ?_
      show Steps p.tables e below (T45.setTop (mkF m 163 #[iv p0, iv p1, iv p2, iv p3, iv p4, rv b2, iv (1 : Int32), rv b32, rv bo37] [(.int (2 : Int32)), (.ref b2), (.int (2 : Int32)), (.ref b32), (.ref bo37)])) _
      refine X45.baloadBytes hx (j := (2 : Int32)) (v := (.int (p2.toInt8.toInt32))) (by rw [hh45]; exact Ar46.1) (State.isArrayOf_alike hZ.alike Ar46.2.1) Ar46.2.2 hin46 hat46 (g := (mkF m 163 #[iv p0, iv p1, iv p2, iv p3, iv p4, rv b2, iv (1 : Int32), rv b32, rv bo37] [(.int (2 : Int32)), (.ref b2), (.int (2 : Int32)), (.ref b32), (.ref bo37)])) rfl rfl (hb hby at_163) _ ?_
      exact kt
    obtain ⟨_, _, ⟨T48, L48, k48, n48⟩, -, X48, ⟨Lc48, hQ48, l48, y48, z48⟩, st48⟩ := Jvm.LawKit.callS X45 hx (y := (⟨"com/example/ereikoussa/ereikoussa/dns/DnsNameLowerCasePinLaw", "at", "([B[BIB)Z"⟩ : MethodName)) hown (mvT hZ (hw _ (List.mem_of_getElem? (i := 14) rfl))) (mvT hZ (hw _ (List.mem_of_getElem? (i := 15) rfl))) (mvT hZ (hw _ (List.mem_of_getElem? (i := 16) rfl))) (mvT hZ (hw _ (List.mem_of_getElem? (i := 17) rfl))) (by decide) (backOf (W := 0) (rm2 l Z a0 hw [] bo37 b32 (2 : Int32) (p2.toInt8.toInt32) k32 k32 (1 : Int32) [(.int (own_lowb (p0.toInt8.toInt32)))] [(.int (p0.toInt8.toInt32))] (.int (0 : Int32)) (.int (0 : Int32)) T37.heap n0 (Nat.le_trans Z0 K37.1) Vp37 (V35.keep Kc37 nin0) (by decide) (fun q => absurd q (by decide))) hZ (hw _ (List.mem_of_getElem? (i := 17) rfl)) (hw _ (List.mem_of_getElem? (i := 16) rfl)) (by decide) (by decide)) (g := (mkF m 164 #[iv p0, iv p1, iv p2, iv p3, iv p4, rv b2, iv (1 : Int32), rv b32, rv bo37] [(.int (p2.toInt8.toInt32)), (.int (2 : Int32)), (.ref b32), (.ref bo37)])) rfl (by rw [hml]; rfl) (argsL := [(.ref bo37), (.ref b32), (.int (2 : Int32)), (.int (p2.toInt8.toInt32))]) (rest := []) (lenOf pd4 rfl) rfl (by show 2 * 0 + _ ≤ _; exact Nat.le_of_eq rfl) (hb hby at_164) (fun _ _ => ⟨rfl, hh45, (by decide : 3 + 0 ≤ _), (by decide : 9 + 0 ≤ _)⟩)
    dsimp only [Pt.U, Pt.locs, Pt.cells, Pt.slots] at X48 l48 y48 z48 st48 hQ48
    subst l48 y48 z48
    obtain ⟨rfl, N48q, hh48⟩ := hQ48
    have N48 := Fr.app N45 N48q
    obtain ⟨cl49, Ar49, q49, S49, M49, H49, G49⟩ := id (((V10.ext E32).other W35 (Nat.ne_of_lt (Nat.lt_of_lt_of_le V10.lt (Nat.le_of_eq g32.symm)))).keep Kc37 nin0)
    have hin49 : ¬ ((3 : Int32) < 0 ∨ cl49.slots.size ≤ ((3 : Int32)).toNatClampNeg) := inb_of S49 ⟨by decide, by decide⟩
    have hat49 : cl49.slots[((3 : Int32)).toNatClampNeg]? = some (.int (p3.toInt8.toInt32)) := H49.at hin49 rfl
    have pre50 : ∀ t, Steps p.tables e below (T48.setTop (mkF m 179 #[iv p0, iv p1, iv p2, iv p3, iv p4, rv b2, iv (1 : Int32), rv b32, rv bo37] [(.int (p3.toInt8.toInt32)), (.int (3 : Int32)), (.ref b32), (.ref bo37)])) t → Steps p.tables e below (s₁.setTop (entryFrame m #[(.int p0), (.int p1), (.int p2), (.int p3), (.int p4)] maxLocals)) t := by
      intro t kt
      refine pre47 _ ?_
      show Steps p.tables e below (T45.setTop (mkF m 164 #[iv p0, iv p1, iv p2, iv p3, iv p4, rv b2, iv (1 : Int32), rv b32, rv bo37] [(.int (p2.toInt8.toInt32)), (.int (2 : Int32)), (.ref b32), (.ref bo37)])) _
      refine st48 _ ?_
      show Steps p.tables e below (T48.setTop (mkF m 167 #[iv p0, iv p1, iv p2, iv p3, iv p4, rv b2, iv (1 : Int32), rv b32, rv bo37] [(.int (1 : Int32))])) _
      refine XS.ifNo X48.here hx rfl (hb hby at_167) rfl ((if0 _ _).trans (feq (by decide)).1) ?_
      show Steps p.tables e below (T48.setTop (mkF m 170 #[iv p0, iv p1, iv p2, iv p3, iv p4, rv b2, iv (1 : Int32), rv b32, rv bo37] [])) _
      refine XS.aload X48.here hx rfl (hb hby at_170) rfl rfl ?_
      show Steps p.tables e below (T48.setTop (mkF m 172 #[iv p0, iv p1, iv p2, iv p3, iv p4, rv b2, iv (1 : Int32), rv b32, rv bo37] [(.ref bo37)])) _
      refine XS.aload X48.here hx rfl (hb hby at_172) rfl rfl ?_
      show Steps p.tables e below (T48.setTop (mkF m 174 #[iv p0, iv p1, iv p2, iv p3, iv p4, rv b2, iv (1 : Int32), rv b32, rv bo37] [(.ref b32), (.ref bo37)])) _
      refine XS.iconst X48.here hx rfl (hb hby at_174) ?_
      show Steps p.tables e below (T48.setTop (mkF m 175 #[iv p0, iv p1, iv p2, iv p3, iv p4, rv b2, iv (1 : Int32), rv b32, rv bo37] [(.int (3 : Int32)), (.ref b32), (.ref bo37)])) _
      refine XS.aload X48.here hx rfl (hb hby at_175) rfl rfl ?_
      show Steps p.tables e below (T48.setTop (mkF m 177 #[iv p0, iv p1, iv p2, iv p3, iv p4, rv b2, iv (1 : Int32), rv b32, rv bo37] [(.ref b2), (.int (3 : Int32)), (.ref b32), (.ref bo37)])) _
      refine XS.iconst X48.here hx rfl (hb hby at_177) ?_
      show Steps p.tables e below (T48.setTop (mkF m 178 #[iv p0, iv p1, iv p2, iv p3, iv p4, rv b2, iv (1 : Int32), rv b32, rv bo37] [(.int (3 : Int32)), (.ref b2), (.int (3 : Int32)), (.ref b32), (.ref bo37)])) _
      refine X48.baloadBytes hx (j := (3 : Int32)) (v := (.int (p3.toInt8.toInt32))) (by rw [hh48]; exact Ar49.1) (State.isArrayOf_alike hZ.alike Ar49.2.1) Ar49.2.2 hin49 hat49 (g := (mkF m 178 #[iv p0, iv p1, iv p2, iv p3, iv p4, rv b2, iv (1 : Int32), rv b32, rv bo37] [(.int (3 : Int32)), (.ref b2), (.int (3 : Int32)), (.ref b32), (.ref bo37)])) rfl rfl (hb hby at_178) _ ?_
      exact kt
    obtain ⟨_, _, ⟨T51, L51, k51, n51⟩, -, X51, ⟨Lc51, hQ51, l51, y51, z51⟩, st51⟩ := Jvm.LawKit.callS X48 hx (y := (⟨"com/example/ereikoussa/ereikoussa/dns/DnsNameLowerCasePinLaw", "at", "([B[BIB)Z"⟩ : MethodName)) hown (mvT hZ (hw _ (List.mem_of_getElem? (i := 14) rfl))) (mvT hZ (hw _ (List.mem_of_getElem? (i := 15) rfl))) (mvT hZ (hw _ (List.mem_of_getElem? (i := 16) rfl))) (mvT hZ (hw _ (List.mem_of_getElem? (i := 17) rfl))) (by decide) (backOf (W := 0) (rm2 l Z a0 hw [] bo37 b32 (3 : Int32) (p3.toInt8.toInt32) k32 k32 (1 : Int32) [(.int (own_lowb (p0.toInt8.toInt32)))] [(.int (p0.toInt8.toInt32))] (.int (0 : Int32)) (.int (0 : Int32)) T37.heap n0 (Nat.le_trans Z0 K37.1) Vp37 (V35.keep Kc37 nin0) (by decide) (fun q => absurd q (by decide))) hZ (hw _ (List.mem_of_getElem? (i := 17) rfl)) (hw _ (List.mem_of_getElem? (i := 16) rfl)) (by decide) (by decide)) (g := (mkF m 179 #[iv p0, iv p1, iv p2, iv p3, iv p4, rv b2, iv (1 : Int32), rv b32, rv bo37] [(.int (p3.toInt8.toInt32)), (.int (3 : Int32)), (.ref b32), (.ref bo37)])) rfl (by rw [hml]; rfl) (argsL := [(.ref bo37), (.ref b32), (.int (3 : Int32)), (.int (p3.toInt8.toInt32))]) (rest := []) (lenOf pd4 rfl) rfl (by show 2 * 0 + _ ≤ _; exact Nat.le_of_eq rfl) (hb hby at_179) (fun _ _ => ⟨rfl, hh48, (by decide : 3 + 0 ≤ _), (by decide : 9 + 0 ≤ _)⟩)
    dsimp only [Pt.U, Pt.locs, Pt.cells, Pt.slots] at X51 l51 y51 z51 st51 hQ51
    subst l51 y51 z51
    obtain ⟨rfl, N51q, hh51⟩ := hQ51
    have N51 := Fr.app N48 N51q
    have pre52 : ∀ t, Steps p.tables e below (T51.setTop (mkF m 190 #[iv p0, iv p1, iv p2, iv p3, iv p4, rv b2, iv (1 : Int32), rv b32, rv bo37] [(.int (1 : Int32))])) t → Steps p.tables e below (s₁.setTop (entryFrame m #[(.int p0), (.int p1), (.int p2), (.int p3), (.int p4)] maxLocals)) t := by
      intro t kt
      refine pre50 _ ?_
      show Steps p.tables e below (T48.setTop (mkF m 179 #[iv p0, iv p1, iv p2, iv p3, iv p4, rv b2, iv (1 : Int32), rv b32, rv bo37] [(.int (p3.toInt8.toInt32)), (.int (3 : Int32)), (.ref b32), (.ref bo37)])) _
      refine st51 _ ?_
      show Steps p.tables e below (T51.setTop (mkF m 182 #[iv p0, iv p1, iv p2, iv p3, iv p4, rv b2, iv (1 : Int32), rv b32, rv bo37] [(.int (1 : Int32))])) _
      refine XS.ifNo X51.here hx rfl (hb hby at_182) rfl ((if0 _ _).trans (feq (by decide)).1) ?_
      show Steps p.tables e below (T51.setTop (mkF m 185 #[iv p0, iv p1, iv p2, iv p3, iv p4, rv b2, iv (1 : Int32), rv b32, rv bo37] [])) _
      refine XS.iconst X51.here hx rfl (hb hby at_185) ?_
      show Steps p.tables e below (T51.setTop (mkF m 186 #[iv p0, iv p1, iv p2, iv p3, iv p4, rv b2, iv (1 : Int32), rv b32, rv bo37] [(.int (1 : Int32))])) _
      refine XS.goto X51.here hx rfl (pc0 := 186) (pc' := 190) rfl (hb hby at_186) (by decide) (by decide) ?_
      exact kt
    obtain ⟨fs, hr, hrun, hended, hW, hsame⟩ := X51.leave (v := some (.int (1 : Int32))) (fun h => by rw [Bd.returns] at h; cases h)
    refine ⟨_, _, pre52 _ ?_, hrun, hended, _, _, rfl, ?_, ⟨_, rfl⟩, hW, hsame.mono (by decide) (by decide)⟩
    · show Steps p.tables e below (T51.setTop (mkF m 190 #[iv p0, iv p1, iv p2, iv p3, iv p4, rv b2, iv (1 : Int32), rv b32, rv bo37] [(.int (1 : Int32))])) _
      exact retN X51 hx (t := .boolean) Bd.returns (by simp) (hb hby at_190) hr
    · show Q0 Z p0 p1 p2 p3 p4 h0 n0 _ T51.heap _
      rw [hh51]
      exact ⟨rfl, N51⟩
  · have pre53 : ∀ t, Steps p.tables e below (T10.setTop (mkF m 36 #[iv p0, iv p1, iv p2, iv p3, iv p4, rv b2, iv (2 : Int32), .unset, .unset] [(.int (2 : Int32))])) t → Steps p.tables e below (s₁.setTop (entryFrame m #[(.int p0), (.int p1), (.int p2), (.int p3), (.int p4)] maxLocals)) t := by
      intro t kt
      refine pre11 _ ?_
      show Steps p.tables e below (T10.setTop (mkF m 34 #[iv p0, iv p1, iv p2, iv p3, iv p4, rv b2, iv ((p4 &&& (7 : Int32)) % (5 : Int32)), .unset, .unset] [])) _
      rw [h5]
      show Steps p.tables e below (T10.setTop (mkF m 34 #[iv p0, iv p1, iv p2, iv p3, iv p4, rv b2, iv (2 : Int32), .unset, .unset] [])) _
      refine XS.iload X10.here hx rfl (hb hby at_34) rfl ?_
      exact kt
    obtain ⟨T54, h54, k54, X54, e54, E54, A54, Ex54, st54⟩ := newPE X10 hx hZ (hw _ (List.mem_of_getElem? (i := 0) rfl)) e10 (g := (mkF m 36 #[iv p0, iv p1, iv p2, iv p3, iv p4, rv b2, iv (2 : Int32), .unset, .unset] [(.int (2 : Int32))])) rfl (hb hby at_36) rfl (by decide) (cap := 2) (by decide) (by decide) (by decide) (by decide) (ad := "[B") rfl
    obtain ⟨b54, g54⟩ : ∃ z, z = h10.size := ⟨_, rfl⟩
    rw [← g54] at A54 Ex54 st54
    have g_b54 : n0 ≤ b54 := Nat.le_trans (Nat.le_trans Z0 K10.1) (Nat.le_of_eq g54.symm)
    have sz_b54 : h0.size ≤ b54 := Nat.le_trans K10.1 (Nat.le_of_eq g54.symm)
    have V_b54 : Arv Z h54 b54 k54 .byte (2 : Int32) [(.int (0 : Int32)), (.int (0 : Int32))] (.int (0 : Int32)) := (Arv.new A54 (by decide)).pad (pad_rep [] (.int (0 : Int32)) 2)
    have K54 : Keep h0 h54 [] := K10.ext E54
    obtain ⟨cl55, Ar55, q55, S55, M55, H55, G55⟩ := id (V10.ext E54)
    have hin55 : ¬ ((0 : Int32) < 0 ∨ cl55.slots.size ≤ ((0 : Int32)).toNatClampNeg) := inb_of S55 ⟨by decide, by decide⟩
    have hat55 : cl55.slots[((0 : Int32)).toNatClampNeg]? = some (.int (p0.toInt8.toInt32)) := H55.at hin55 rfl
    have pre56 : ∀ t, Steps p.tables e below (T54.setTop (mkF m 52 #[iv p0, iv p1, iv p2, iv p3, iv p4, rv b2, iv (2 : Int32), rv b54, .unset] [(.int (p0.toInt8.toInt32)), (.int (0 : Int32)), (.ref b54)])) t → Steps p.tables e below (s₁.setTop (entryFrame m #[(.int p0), (.int p1), (.int p2), (.int p3), (.int p4)] maxLocals)) t := by
      intro t kt
      refine pre53 _ ?_
      show Steps p.tables e below (T10.setTop (mkF m 36 #[iv p0, iv p1, iv p2, iv p3, iv p4, rv b2, iv (2 : Int32), .unset, .unset] [(.int (2 : Int32))])) _
      refine st54 _ ?_
      show Steps p.tables e below (T54.setTop (mkF m 38 #[iv p0, iv p1, iv p2, iv p3, iv p4, rv b2, iv (2 : Int32), .unset, .unset] [(.ref b54)])) _
      refine XS.astore X54.here hx rfl (hb hby at_38) rfl rfl (l' := #[iv p0, iv p1, iv p2, iv p3, iv p4, rv b2, iv (2 : Int32), rv b54, .unset]) rfl ?_
      show Steps p.tables e below (T54.setTop (mkF m 40 #[iv p0, iv p1, iv p2, iv p3, iv p4, rv b2, iv (2 : Int32), rv b54, .unset] [])) _
      refine XS.iload X54.here hx rfl (hb hby at_40) rfl ?_
      show Steps p.tables e below (T54.setTop (mkF m 42 #[iv p0, iv p1, iv p2, iv p3, iv p4, rv b2, iv (2 : Int32), rv b54, .unset] [(.int (2 : Int32))])) _
      refine XS.ifNo X54.here hx rfl (hb hby at_42) rfl ((if0 _ _).trans (tlt (by decide)).2.2.2) ?_
      show Steps p.tables e below (T54.setTop (mkF m 45 #[iv p0, iv p1, iv p2, iv p3, iv p4, rv b2, iv (2 : Int32), rv b54, .unset] [])) _
      refine XS.aload X54.here hx rfl (hb hby at_45) rfl rfl ?_
      show Steps p.tables e below (T54.setTop (mkF m 47 #[iv p0, iv p1, iv p2, iv p3, iv p4, rv b2, iv (2 : Int32), rv b54, .unset] [(.ref b54)])) _
      refine XS.iconst X54.here hx rfl (hb hby at_47) ?_
      show Steps p.tables e below (T54.setTop (mkF m 48 #[iv p0, iv p1, iv p2, iv p3, iv p4, rv b2, iv (2 : Int32), rv b54, .unset] [(.int (0 : Int32)), (.ref b54)])) _
      refine XS.aload X54.here hx rfl (hb hby at_48) rfl rfl ?_
      show Steps p.tables e below (T54.setTop (mkF m 50 #[iv p0, iv p1, iv p2, iv p3, iv p4, rv b2, iv (2 : Int32), rv b54, .unset] [(.ref b2), (.int (0 : Int32)), (.ref b54)])) _
      refine XS.iconst X54.here hx rfl (hb hby at_50) ?_
      show Steps p.tables e below (T54.setTop (mkF m 51 #[iv p0, iv p1, iv p2, iv p3, iv p4, rv b2, iv (2 : Int32), rv b54, .unset] [(.int (0 : Int32)), (.ref b2), (.int (0 : Int32)), (.ref b54)])) _
      refine X54.baloadBytes hx (j := (0 : Int32)) (v := (.int (p0.toInt8.toInt32))) (by rw [e54]; exact Ar55.1) (State.isArrayOf_alike hZ.alike Ar55.2.1) Ar55.2.2 hin55 hat55 (g := (mkF m 51 #[iv p0, iv p1, iv p2, iv p3, iv p4, rv b2, iv (2 : Int32), rv b54, .unset] [(.int (0 : Int32)), (.ref b2), (.int (0 : Int32)), (.ref b54)])) rfl rfl (hb hby at_51) _ ?_
      exact kt
    obtain ⟨cl57, Ar57, q57, S57, M57, H57, G57⟩ := id V_b54
    have hin57 : ¬ ((0 : Int32) < 0 ∨ cl57.slots.size ≤ ((0 : Int32)).toNatClampNeg) := inb_of S57 ⟨by decide, by decide⟩
    obtain ⟨T57, h57, X57, e57, W57, st57⟩ := stB X54 hx hZ e54 Ar57 (j := (0 : Int32)) hin57 (g := (mkF m 52 #[iv p0, iv p1, iv p2, iv p3, iv p4, rv b2, iv (2 : Int32), rv b54, .unset] [(.int (p0.toInt8.toInt32)), (.int (0 : Int32)), (.ref b54)])) rfl rfl (hb hby at_52)
    have nn57 : nar .byte (p0.toInt8.toInt32) = (p0.toInt8.toInt32) := (own_nb _)
    rw [nn57] at W57
    have V57 : Arv Z h57 b54 k54 .byte (2 : Int32) [(.int (p0.toInt8.toInt32)), (.int (0 : Int32))] (.int (0 : Int32)) := Arv.set Ar57 q57 S57 M57 H57 G57 (own_fb nn57) W57 0 rfl (Nat.le_of_ble_eq_true rfl)
    have K57 : Keep h0 h57 [] := K54.wr W57 (Or.inr sz_b54)
    have N57 := Fr.snoc X57 N10 g_b54
    obtain ⟨cl58, Ar58, q58, S58, M58, H58, G58⟩ := id ((V10.ext E54).other W57 (Nat.ne_of_lt (Nat.lt_of_lt_of_le V10.lt (Nat.le_of_eq g54.symm))))
    have hin58 : ¬ ((1 : Int32) < 0 ∨ cl58.slots.size ≤ ((1 : Int32)).toNatClampNeg) := inb_of S58 ⟨by decide, by decide⟩
    have hat58 : cl58.slots[((1 : Int32)).toNatClampNeg]? = some (.int (p1.toInt8.toInt32)) := H58.at hin58 rfl
    have pre59 : ∀ t, Steps p.tables e below (T57.setTop (mkF m 66 #[iv p0, iv p1, iv p2, iv p3, iv p4, rv b2, iv (2 : Int32), rv b54, .unset] [(.int (p1.toInt8.toInt32)), (.int (1 : Int32)), (.ref b54)])) t → Steps p.tables e below (s₁.setTop (entryFrame m #[(.int p0), (.int p1), (.int p2), (.int p3), (.int p4)] maxLocals)) t := by
      intro t kt
      refine pre56 _ ?_
      show Steps p.tables e below (T54.setTop (mkF m 52 #[iv p0, iv p1, iv p2, iv p3, iv p4, rv b2, iv (2 : Int32), rv b54, .unset] [(.int (p0.toInt8.toInt32)), (.int (0 : Int32)), (.ref b54)])) _
      refine st57 _ ?_
      show Steps p.tables e below (T57.setTop (mkF m 53 #[iv p0, iv p1, iv p2, iv p3, iv p4, rv b2, iv (2 : Int32), rv b54, .unset] [])) _
      refine XS.iload X57.here hx rfl (hb hby at_53) rfl ?_
      show Steps p.tables e below (T57.setTop (mkF m 55 #[iv p0, iv p1, iv p2, iv p3, iv p4, rv b2, iv (2 : Int32), rv b54, .unset] [(.int (2 : Int32))])) _
      refine XS.iconst X57.here hx rfl (hb hby at_55) ?_
      show Steps p.tables e below (T57.setTop (mkF m 56 #[iv p0, iv p1, iv p2, iv p3, iv p4, rv b2, iv (2 : Int32), rv b54, .unset] [(.int (1 : Int32)), (.int (2 : Int32))])) _
      refine XS.icmpNo X57.here hx rfl (hb hby at_56) rfl (tlt (by decide)).2.2.2 ?_
      show Steps p.tables e below (T57.setTop (mkF m 59 #[iv p0, iv p1, iv p2, iv p3, iv p4, rv b2, iv (2 : Int32), rv b54, .unset] [])) _
      refine XS.aload X57.here hx rfl (hb hby at_59) rfl rfl ?_
      show Steps p.tables e below (T57.setTop (mkF m 61 #[iv p0, iv p1, iv p2, iv p3, iv p4, rv b2, iv (2 : Int32), rv b54, .unset] [(.ref b54)])) _
      refine XS.iconst X57.here hx rfl (hb hby at_61) ?_
      show Steps p.tables e below (T57.setTop (mkF m 62 #[iv p0, iv p1, iv p2, iv p3, iv p4, rv b2, iv (2 : Int32), rv b54, .unset] [(.int (1 : Int32)), (.ref b54)])) _
      refine XS.aload X57.here hx rfl (hb hby at_62) rfl rfl ?_
      show Steps p.tables e below (T57.setTop (mkF m 64 #[iv p0, iv p1, iv p2, iv p3, iv p4, rv b2, iv (2 : Int32), rv b54, .unset] [(.ref b2), (.int (1 : Int32)), (.ref b54)])) _
      refine XS.iconst X57.here hx rfl (hb hby at_64) ?_
      show Steps p.tables e below (T57.setTop (mkF m 65 #[iv p0, iv p1, iv p2, iv p3, iv p4, rv b2, iv (2 : Int32), rv b54, .unset] [(.int (1 : Int32)), (.ref b2), (.int (1 : Int32)), (.ref b54)])) _
      refine X57.baloadBytes hx (j := (1 : Int32)) (v := (.int (p1.toInt8.toInt32))) (by rw [e57]; exact Ar58.1) (State.isArrayOf_alike hZ.alike Ar58.2.1) Ar58.2.2 hin58 hat58 (g := (mkF m 65 #[iv p0, iv p1, iv p2, iv p3, iv p4, rv b2, iv (2 : Int32), rv b54, .unset] [(.int (1 : Int32)), (.ref b2), (.int (1 : Int32)), (.ref b54)])) rfl rfl (hb hby at_65) _ ?_
      exact kt
    obtain ⟨cl60, Ar60, q60, S60, M60, H60, G60⟩ := id V57
    have hin60 : ¬ ((1 : Int32) < 0 ∨ cl60.slots.size ≤ ((1 : Int32)).toNatClampNeg) := inb_of S60 ⟨by decide, by decide⟩
    obtain ⟨T60, h60, X60, e60, W60, st60⟩ := stB X57 hx hZ e57 Ar60 (j := (1 : Int32)) hin60 (g := (mkF m 66 #[iv p0, iv p1, iv p2, iv p3, iv p4, rv b2, iv (2 : Int32), rv b54, .unset] [(.int (p1.toInt8.toInt32)), (.int (1 : Int32)), (.ref b54)])) rfl rfl (hb hby at_66)
    have nn60 : nar .byte (p1.toInt8.toInt32) = (p1.toInt8.toInt32) := (own_nb _)
    rw [nn60] at W60
    have V60 : Arv Z h60 b54 k54 .byte (2 : Int32) [(.int (p0.toInt8.toInt32)), (.int (p1.toInt8.toInt32))] (.int (0 : Int32)) := Arv.set Ar60 q60 S60 M60 H60 G60 (own_fb nn60) W60 1 rfl (Nat.le_of_ble_eq_true rfl)
    have K60 : Keep h0 h60 [] := K57.wr W60 (Or.inr sz_b54)
    have N60 := Fr.snoc X60 N57 g_b54
    have pre61 : ∀ t, Steps p.tables e below (T60.setTop (mkF m 97 #[iv p0, iv p1, iv p2, iv p3, iv p4, rv b2, iv (2 : Int32), rv b54, .unset] [(.ref b54)])) t → Steps p.tables e below (s₁.setTop (entryFrame m #[(.int p0), (.int p1), (.int p2), (.int p3), (.int p4)] maxLocals)) t := by
      intro t kt
      refine pre59 _ ?_
      show Steps p.tables e below (T57.setTop (mkF m 66 #[iv p0, iv p1, iv p2, iv p3, iv p4, rv b2, iv (2 : Int32), rv b54, .unset] [(.int (p1.toInt8.toInt32)), (.int (1 : Int32)), (.ref b54)])) _
      refine st60 _ ?_
      show Steps p.tables e below (T60.setTop (mkF m 67 #[iv p0, iv p1, iv p2, iv p3, iv p4, rv b2, iv (2 : Int32), rv b54, .unset] [])) _
      refine XS.iload X60.here hx rfl (hb hby at_67) rfl ?_
      show Steps p.tables e below (T60.setTop (mkF m 69 #[iv p0, iv p1, iv p2, iv p3, iv p4, rv b2, iv (2 : Int32), rv b54, .unset] [(.int (2 : Int32))])) _
      refine XS.iconst X60.here hx rfl (hb hby at_69) ?_
      show Steps p.tables e below (T60.setTop (mkF m 70 #[iv p0, iv p1, iv p2, iv p3, iv p4, rv b2, iv (2 : Int32), rv b54, .unset] [(.int (2 : Int32)), (.int (2 : Int32))])) _
      refine XS.icmpYes X60.here hx rfl (pc0 := 70) (pc' := 81) rfl (hb hby at_70) rfl (flt (by decide)).2.2.2 (by decide) (by decide) ?_
      show Steps p.tables e below (T60.setTop (mkF m 81 #[iv p0, iv p1, iv p2, iv p3, iv p4, rv b2, iv (2 : Int32), rv b54, .unset] [])) _
      refine XS.iload X60.here hx rfl (hb hby at_81) rfl ?_
      show Steps p.tables e below (T60.setTop (mkF m 83 #[iv p0, iv p1, iv p2, iv p3, iv p4, rv b2, iv (2 : Int32), rv b54, .unset] [(.int (2 : Int32))])) _
      refine XS.iconst X60.here hx rfl (hb hby at_83) ?_
      show Steps p.tables e below (T60.setTop (mkF m 84 #[iv p0, iv p1, iv p2, iv p3, iv p4, rv b2, iv (2 : Int32), rv b54, .unset] [(.int (3 : Int32)), (.int (2 : Int32))])) _
      refine XS.icmpYes X60.here hx rfl (pc0 := 84) (pc' := 95) rfl (hb hby at_84) rfl (flt (by decide)).2.2.2 (by decide) (by decide) ?_
      show Steps p.tables e below (T60.setTop (mkF m 95 #[iv p0, iv p1, iv p2, iv p3, iv p4, rv b2, iv (2 : Int32), rv b54, .unset] [])) _
      refine XS.aload X60.here hx rfl (hb hby at_95) rfl rfl ?_
      exact kt
    obtain ⟨_, _, ⟨T62, L62, k62, n62⟩, -, X62, ⟨Lc62, hQ62, l62, y62, z62⟩, st62⟩ := Jvm.LawKit.callS X60 hx (y := (⟨"com/example/ereikoussa/ereikoussa/dns/DnsName", "lowerCase", "([B)[B"⟩ : MethodName)) hown (mvT hZ (hw _ (List.mem_of_getElem? (i := 1) rfl))) (mvT hZ (hw _ (List.mem_of_getElem? (i := 2) rfl))) (mvT hZ (hw _ (List.mem_of_getElem? (i := 3) rfl))) (mvT hZ (hw _ (List.mem_of_getElem? (i := 4) rfl))) (by decide) (backOf (W := 0) (rm1 l Z a0 hw [] b54 k54 (fun k => ([(p0.toInt8.toInt32), (p1.toInt8.toInt32)] : List Int32).getD k 0) 2 h60 n0 (Nat.le_trans Z0 K60.1) (by decide) V60 ((Ex54.wr W57).wr W60)) hZ (hw _ (List.mem_of_getElem? (i := 4) rfl)) (hw _ (List.mem_of_getElem? (i := 3) rfl)) (by decide) (by decide)) (g := (mkF m 97 #[iv p0, iv p1, iv p2, iv p3, iv p4, rv b2, iv (2 : Int32), rv b54, .unset] [(.ref b54)])) rfl (by rw [hml]; rfl) (argsL := [(.ref b54)]) (rest := []) (lenOf pd3 rfl) rfl (by show 2 * 0 + _ ≤ _; exact Nat.le_of_eq rfl) (hb hby at_97) (fun _ _ => ⟨rfl, e60, (by decide : 2 + 1 ≤ _), (by decide : 6 + 4 ≤ _)⟩)
    dsimp only [Pt.U, Pt.locs, Pt.cells, Pt.slots] at X62 l62 y62 z62 st62 hQ62
    subst l62 y62 z62
    obtain ⟨bo62, rfl, N62q, Kc62, Vo62⟩ := hQ62
    have N62 := Fr.app N60 N62q
    have K62 : Keep h0 T62.heap [] := K60.trans Kc62 all0
    have Vp62 : Arv Z T62.heap bo62 k54 .byte (2 : Int32) [(.int (own_lowb (p0.toInt8.toInt32))), (.int (own_lowb (p1.toInt8.toInt32)))] (.int (0 : Int32)) := Vo62
    obtain ⟨cl63, Ar63, -, S63, M63, -, -⟩ := id Vp62
    obtain ⟨cl64, Ar64, -, S64, M64, -, -⟩ := id (V60.keep Kc62 nin0)
    obtain ⟨cl65, Ar65, q65, S65, M65, H65, G65⟩ := id ((((V10.ext E54).other W57 (Nat.ne_of_lt (Nat.lt_of_lt_of_le V10.lt (Nat.le_of_eq g54.symm)))).other W60 (Nat.ne_of_lt (Nat.lt_of_lt_of_le V10.lt (Nat.le_of_eq g54.symm)))).keep Kc62 nin0)
    have hin65 : ¬ ((0 : Int32) < 0 ∨ cl65.slots.size ≤ ((0 : Int32)).toNatClampNeg) := inb_of S65 ⟨by decide, by decide⟩
    have hat65 : cl65.slots[((0 : Int32)).toNatClampNeg]? = some (.int (p0.toInt8.toInt32)) := H65.at hin65 rfl
    have pre66 : ∀ t, Steps p.tables e below (T62.setTop (mkF m 134 #[iv p0, iv p1, iv p2, iv p3, iv p4, rv b2, iv (2 : Int32), rv b54, rv bo62] [(.int (p0.toInt8.toInt32)), (.int (0 : Int32)), (.ref b54), (.ref bo62)])) t → Steps p.tables e below (s₁.setTop (entryFrame m #[(.int p0), (.int p1), (.int p2), (.int p3), (.int p4)] maxLocals)) t := by
      intro t kt
      refine pre61 _ ?_
      show Steps p.tables e below (T60.setTop (mkF m 97 #[iv p0, iv p1, iv p2, iv p3, iv p4, rv b2, iv (2 : Int32), rv b54, .unset] [(.ref b54)])) _
      refine st62 _ ?_
      show Steps p.tables e below (T62.setTop (mkF m 100 #[iv p0, iv p1, iv p2, iv p3, iv p4, rv b2, iv (2 : Int32), rv b54, .unset] [(.ref bo62)])) _
      refine XS.astore X62.here hx rfl (hb hby at_100) rfl rfl (l' := #[iv p0, iv p1, iv p2, iv p3, iv p4, rv b2, iv (2 : Int32), rv b54, rv bo62]) rfl ?_
      show Steps p.tables e below (T62.setTop (mkF m 102 #[iv p0, iv p1, iv p2, iv p3, iv p4, rv b2, iv (2 : Int32), rv b54, rv bo62] [])) _
      refine XS.aload X62.here hx rfl (hb hby at_102) rfl rfl ?_
      show Steps p.tables e below (T62.setTop (mkF m 104 #[iv p0, iv p1, iv p2, iv p3, iv p4, rv b2, iv (2 : Int32), rv b54, rv bo62] [(.ref bo62)])) _
      refine XS.ifnullNo X62.here hx rfl (hb hby at_104) rfl ?_
      show Steps p.tables e below (T62.setTop (mkF m 107 #[iv p0, iv p1, iv p2, iv p3, iv p4, rv b2, iv (2 : Int32), rv b54, rv bo62] [])) _
      refine XS.aload X62.here hx rfl (hb hby at_107) rfl rfl ?_
      show Steps p.tables e below (T62.setTop (mkF m 109 #[iv p0, iv p1, iv p2, iv p3, iv p4, rv b2, iv (2 : Int32), rv b54, rv bo62] [(.ref bo62)])) _
      refine X62.arraylength hx Ar63.1 (State.isArrayOf_alike hZ.alike Ar63.2.1) (g := (mkF m 109 #[iv p0, iv p1, iv p2, iv p3, iv p4, rv b2, iv (2 : Int32), rv b54, rv bo62] [(.ref bo62)])) rfl rfl (hb hby at_109) _ ?_
      rw [len_of S63 M63]
      show Steps p.tables e below (T62.setTop (mkF m 110 #[iv p0, iv p1, iv p2, iv p3, iv p4, rv b2, iv (2 : Int32), rv b54, rv bo62] [(.int (2 : Int32))])) _
      refine XS.iload X62.here hx rfl (hb hby at_110) rfl ?_
      show Steps p.tables e below (T62.setTop (mkF m 112 #[iv p0, iv p1, iv p2, iv p3, iv p4, rv b2, iv (2 : Int32), rv b54, rv bo62] [(.int (2 : Int32)), (.int (2 : Int32))])) _
      refine XS.icmpNo X62.here hx rfl (hb hby at_112) rfl (teq (by decide)).2 ?_
      show Steps p.tables e below (T62.setTop (mkF m 115 #[iv p0, iv p1, iv p2, iv p3, iv p4, rv b2, iv (2 : Int32), rv b54, rv bo62] [])) _
      refine XS.aload X62.here hx rfl (hb hby at_115) rfl rfl ?_
      show Steps p.tables e below (T62.setTop (mkF m 117 #[iv p0, iv p1, iv p2, iv p3, iv p4, rv b2, iv (2 : Int32), rv b54, rv bo62] [(.ref b54)])) _
      refine X62.arraylength hx Ar64.1 (State.isArrayOf_alike hZ.alike Ar64.2.1) (g := (mkF m 117 #[iv p0, iv p1, iv p2, iv p3, iv p4, rv b2, iv (2 : Int32), rv b54, rv bo62] [(.ref b54)])) rfl rfl (hb hby at_117) _ ?_
      rw [len_of S64 M64]
      show Steps p.tables e below (T62.setTop (mkF m 118 #[iv p0, iv p1, iv p2, iv p3, iv p4, rv b2, iv (2 : Int32), rv b54, rv bo62] [(.int (2 : Int32))])) _
      refine XS.iload X62.here hx rfl (hb hby at_118) rfl ?_
      show Steps p.tables e below (T62.setTop (mkF m 120 #[iv p0, iv p1, iv p2, iv p3, iv p4, rv b2, iv (2 : Int32), rv b54, rv bo62] [(.int (2 : Int32)), (.int (2 : Int32))])) _
      refine XS.icmpYes X62.here hx rfl (pc0 := 120) (pc' := 125) rfl (hb hby at_120) rfl (teq (by decide)).1 (by decide) (by decide) ?_
      show Steps p.tables e below (T62.setTop (mkF m 125 #[iv p0, iv p1, iv p2, iv p3, iv p4, rv b2, iv (2 : Int32), rv b54, rv bo62] [])) _
      refine XS.aload X62.here hx rfl (hb hby at_125) rfl rfl ?_
      show Steps p.tables e below (T62.setTop (mkF m 127 #[iv p0, iv p1, iv p2, iv p3, iv p4, rv b2, iv (2 : Int32), rv b54, rv bo62] [(.ref bo62)])) _
      refine XS.aload X62.here hx rfl (hb hby at_127) rfl rfl ?_
      show Steps p.tables e below (T62.setTop (mkF m 129 #[iv p0, iv p1, iv p2, iv p3, iv p4, rv b2, iv (2 : Int32), rv b54, rv bo62] [(.ref b54), (.ref bo62)])) _
      refine XS.iconst X62.here hx rfl (hb hby at_129) ?_
      show Steps p.tables e below (T62.setTop (mkF m 130 #[iv p0, iv p1, iv p2, iv p3, iv p4, rv b2, iv (2 : Int32), rv b54, rv bo62] [(.int (0 : Int32)), (.ref b54), (.ref bo62)])) _
      refine XS.aload X62.here hx rfl (hb hby at_130) rfl rfl ?_
      show Steps p.tables e below (T62.setTop (mkF m 132 #[iv p0, iv p1, iv p2, iv p3, iv p4, rv b2, iv (2 : Int32), rv b54, rv bo62] [(.ref b2), (.int (0 : Int32)), (.ref b54), (.ref bo62)])) _
      refine XS.iconst X62.here hx rfl (hb hby at_132) ?_
      show Steps p.tables e below (T62.setTop (mkF m 133 #[iv p0, iv p1, iv p2, iv p3, iv p4, rv b2, iv (2 : Int32), rv b54, rv bo62] [(.int (0 : Int32)), (.ref b2), (.int (0 : Int32)), (.ref b54), (.ref bo62)])) _
      refine X62.baloadBytes hx (j := (0 : Int32)) (v := (.int (p0.toInt8.toInt32))) Ar65.1 (State.isArrayOf_alike hZ.alike Ar65.2.1) Ar65.2.2 hin65 hat65 (g := (mkF m 133 #[iv p0, iv p1, iv p2, iv p3, iv p4, rv b2, iv (2 : Int32), rv b54, rv bo62] [(.int (0 : Int32)), (.ref b2), (.int (0 : Int32)), (.ref b54), (.ref bo62)])) rfl rfl (hb hby at_133) _ ?_
      exact kt
    obtain ⟨_, _, ⟨T67, L67, k67, n67⟩, -, X67, ⟨Lc67, hQ67, l67, y67, z67⟩, st67⟩ := Jvm.LawKit.callS X62 hx (y := (⟨"com/example/ereikoussa/ereikoussa/dns/DnsNameLowerCasePinLaw", "at", "([B[BIB)Z"⟩ : MethodName)) hown (mvT hZ (hw _ (List.mem_of_getElem? (i := 14) rfl))) (mvT hZ (hw _ (List.mem_of_getElem? (i := 15) rfl))) (mvT hZ (hw _ (List.mem_of_getElem? (i := 16) rfl))) (mvT hZ (hw _ (List.mem_of_getElem? (i := 17) rfl))) (by decide) (backOf (W := 0) (rm2 l Z a0 hw [] bo62 b54 (0 : Int32) (p0.toInt8.toInt32) k54 k54 (2 : Int32) [(.int (own_lowb (p0.toInt8.toInt32))), (.int (own_lowb (p1.toInt8.toInt32)))] [(.int (p0.toInt8.toInt32)), (.int (p1.toInt8.toInt32))] (.int (0 : Int32)) (.int (0 : Int32)) T62.heap n0 (Nat.le_trans Z0 K62.1) Vp62 (V60.keep Kc62 nin0) (by decide) (fun _ => ⟨congrArg Value.int (own_low_eq _ (own_nb _)).symm, rfl⟩)) hZ (hw _ (List.mem_of_getElem? (i := 17) rfl)) (hw _ (List.mem_of_getElem? (i := 16) rfl)) (by decide) (by decide)) (g := (mkF m 134 #[iv p0, iv p1, iv p2, iv p3, iv p4, rv b2, iv (2 : Int32), rv b54, rv bo62] [(.int (p0.toInt8.toInt32)), (.int (0 : Int32)), (.ref b54), (.ref bo62)])) rfl (by rw [hml]; rfl) (argsL := [(.ref bo62), (.ref b54), (.int (0 : Int32)), (.int (p0.toInt8.toInt32))]) (rest := []) (lenOf pd4 rfl) rfl (by show 2 * 0 + _ ≤ _; exact Nat.le_of_eq rfl) (hb hby at_134) (fun _ _ => ⟨rfl, rfl, (by decide : 3 + 0 ≤ _), (by decide : 10 + 0 ≤ _)⟩)
    dsimp only [Pt.U, Pt.locs, Pt.cells, Pt.slots] at X67 l67 y67 z67 st67 hQ67
    subst l67 y67 z67
    obtain ⟨rfl, N67q, hh67⟩ := hQ67
    have N67 := Fr.app N62 N67q
    obtain ⟨cl68, Ar68, q68, S68, M68, H68, G68⟩ := id ((((V10.ext E54).other W57 (Nat.ne_of_lt (Nat.lt_of_lt_of_le V10.lt (Nat.le_of_eq g54.symm)))).other W60 (Nat.ne_of_lt (Nat.lt_of_lt_of_le V10.lt (Nat.le_of_eq g54.symm)))).keep Kc62 nin0)
    have hin68 : ¬ ((1 : Int32) < 0 ∨ cl68.slots.size ≤ ((1 : Int32)).toNatClampNeg) := inb_of S68 ⟨by decide, by decide⟩
    have hat68 : cl68.slots[((1 : Int32)).toNatClampNeg]? = some (.int (p1.toInt8.toInt32)) := H68.at hin68 rfl
    have pre69 : ∀ t, Steps p.tables e below (T67.setTop (mkF m 149 #[iv p0, iv p1, iv p2, iv p3, iv p4, rv b2, iv (2 : Int32), rv b54, rv bo62] [(.int (p1.toInt8.toInt32)), (.int (1 : Int32)), (.ref b54), (.ref bo62)])) t → Steps p.tables e below (s₁.setTop (entryFrame m #[(.int p0), (.int p1), (.int p2), (.int p3), (.int p4)] maxLocals)) t := by
      intro t kt
      refine pre66 _ ?_
      show Steps p.tables e below (T62.setTop (mkF m 134 #[iv p0, iv p1, iv p2, iv p3, iv p4, rv b2, iv (2 : Int32), rv b54, rv bo62] [(.int (p0.toInt8.toInt32)), (.int (0 : Int32)), (.ref b54), (.ref bo62)])) _
      refine st67 _ ?_
      show Steps p.tables e below (T67.setTop (mkF m 137 #[iv p0, iv p1, iv p2, iv p3, iv p4, rv b2, iv (2 : Int32), rv b54, rv bo62] [(.int (1 : Int32))])) _
      refine XS.ifNo X67.here hx rfl (hb hby at_137) rfl ((if0 _ _).trans (feq (by decide)).1) ?_
      show Steps p.tables e below (T67.setTop (mkF m 140 #[iv p0, iv p1, iv p2, iv p3, iv p4, rv b2, iv (2 : Int32), rv b54, rv bo62] [])) _
      refine XS.aload X67.here hx rfl (hb hby at_140) rfl rfl ?_
      show Steps p.tables e below (T67.setTop (mkF m 142 #[iv p0, iv p1, iv p2, iv p3, iv p4, rv b2, iv (2 : Int32), rv b54, rv bo62] [(.ref bo62)])) _
      refine XS.aload X67.here hx rfl (hb hby at_142) rfl rfl ?_
      show Steps p.tables e below (T67.setTop (mkF m 144 #[iv p0, iv p1, iv p2, iv p3, iv p4, rv b2, iv (2 : Int32), rv b54, rv bo62] [(.ref b54), (.ref bo62)])) _
      refine XS.iconst X67.here hx rfl (hb hby at_144) ?_
      show Steps p.tables e below (T67.setTop (mkF m 145 #[iv p0, iv p1, iv p2, iv p3, iv p4, rv b2, iv (2 : Int32), rv b54, rv bo62] [(.int (1 : Int32)), (.ref b54), (.ref bo62)])) _
      refine XS.aload X67.here hx rfl (hb hby at_145) rfl rfl ?_
      show Steps p.tables e below (T67.setTop (mkF m 147 #[iv p0, iv p1, iv p2, iv p3, iv p4, rv b2, iv (2 : Int32), rv b54, rv bo62] [(.ref b2), (.int (1 : Int32)), (.ref b54), (.ref bo62)])) _
      refine XS.iconst X67.here hx rfl (hb hby at_147) ?_
      show Steps p.tables e below (T67.setTop (mkF m 148 #[iv p0, iv p1, iv p2, iv p3, iv p4, rv b2, iv (2 : Int32), rv b54, rv bo62] [(.int (1 : Int32)), (.ref b2), (.int (1 : Int32)), (.ref b54), (.ref bo62)])) _
      refine X67.baloadBytes hx (j := (1 : Int32)) (v := (.int (p1.toInt8.toInt32))) (by rw [hh67]; exact Ar68.1) (State.isArrayOf_alike hZ.alike Ar68.2.1) Ar68.2.2 hin68 hat68 (g := (mkF m 148 #[iv p0, iv p1, iv p2, iv p3, iv p4, rv b2, iv (2 : Int32), rv b54, rv bo62] [(.int (1 : Int32)), (.ref b2), (.int (1 : Int32)), (.ref b54), (.ref bo62)])) rfl rfl (hb hby at_148) _ ?_
      exact kt
    obtain ⟨_, _, ⟨T70, L70, k70, n70⟩, -, X70, ⟨Lc70, hQ70, l70, y70, z70⟩, st70⟩ := Jvm.LawKit.callS X67 hx (y := (⟨"com/example/ereikoussa/ereikoussa/dns/DnsNameLowerCasePinLaw", "at", "([B[BIB)Z"⟩ : MethodName)) hown (mvT hZ (hw _ (List.mem_of_getElem? (i := 14) rfl))) (mvT hZ (hw _ (List.mem_of_getElem? (i := 15) rfl))) (mvT hZ (hw _ (List.mem_of_getElem? (i := 16) rfl))) (mvT hZ (hw _ (List.mem_of_getElem? (i := 17) rfl))) (by decide) (backOf (W := 0) (rm2 l Z a0 hw [] bo62 b54 (1 : Int32) (p1.toInt8.toInt32) k54 k54 (2 : Int32) [(.int (own_lowb (p0.toInt8.toInt32))), (.int (own_lowb (p1.toInt8.toInt32)))] [(.int (p0.toInt8.toInt32)), (.int (p1.toInt8.toInt32))] (.int (0 : Int32)) (.int (0 : Int32)) T62.heap n0 (Nat.le_trans Z0 K62.1) Vp62 (V60.keep Kc62 nin0) (by decide) (fun _ => ⟨congrArg Value.int (own_low_eq _ (own_nb _)).symm, rfl⟩)) hZ (hw _ (List.mem_of_getElem? (i := 17) rfl)) (hw _ (List.mem_of_getElem? (i := 16) rfl)) (by decide) (by decide)) (g := (mkF m 149 #[iv p0, iv p1, iv p2, iv p3, iv p4, rv b2, iv (2 : Int32), rv b54, rv bo62] [(.int (p1.toInt8.toInt32)), (.int (1 : Int32)), (.ref b54), (.ref bo62)])) rfl (by rw [hml]; rfl) (argsL := [(.ref bo62), (.ref b54), (.int (1 : Int32)), (.int (p1.toInt8.toInt32))]) (rest := []) (lenOf pd4 rfl) rfl (by show 2 * 0 + _ ≤ _; exact Nat.le_of_eq rfl) (hb hby at_149) (fun _ _ => ⟨rfl, hh67, (by decide : 3 + 0 ≤ _), (by decide : 10 + 0 ≤ _)⟩)
    dsimp only [Pt.U, Pt.locs, Pt.cells, Pt.slots] at X70 l70 y70 z70 st70 hQ70
    subst l70 y70 z70
    obtain ⟨rfl, N70q, hh70⟩ := hQ70
    have N70 := Fr.app N67 N70q
    obtain ⟨cl71, Ar71, q71, S71, M71, H71, G71⟩ := id ((((V10.ext E54).other W57 (Nat.ne_of_lt (Nat.lt_of_lt_of_le V10.lt (Nat.le_of_eq g54.symm)))).other W60 (Nat.ne_of_lt (Nat.lt_of_lt_of_le V10.lt (Nat.le_of_eq g54.symm)))).keep Kc62 nin0)
    have hin71 : ¬ ((2 : Int32) < 0 ∨ cl71.slots.size ≤ ((2 : Int32)).toNatClampNeg) := inb_of S71 ⟨by decide, by decide⟩
    have hat71 : cl71.slots[((2 : Int32)).toNatClampNeg]? = some (.int (p2.toInt8.toInt32)) := H71.at hin71 rfl
    have pre72 : ∀ t, Steps p.tables e below (T70.setTop (mkF m 164 #[iv p0, iv p1, iv p2, iv p3, iv p4, rv b2, iv (2 : Int32), rv b54, rv bo62] [(.int (p2.toInt8.toInt32)), (.int (2 : Int32)), (.ref b54), (.ref bo62)])) t → Steps p.tables e below (s₁.setTop (entryFrame m #[(.int p0), (.int p1), (.int p2), (.int p3), (.int p4)] maxLocals)) t := by
      intro t kt
      refine pre69 _ ?_
      show Steps p.tables e below (T67.setTop (mkF m 149 #[iv p0, iv p1, iv p2, iv p3, iv p4, rv b2, iv (2 : Int32), rv b54, rv bo62] [(.int (p1.toInt8.toInt32)), (.int (1 : Int32)), (.ref b54), (.ref bo62)])) _
      refine st70 _ ?_
      show Steps p.tables e below (T70.setTop (mkF m 152 #[iv p0, iv p1, iv p2, iv p3, iv p4, rv b2, iv (2 : Int32), rv b54, rv bo62] [(.int (1 : Int32))])) _
      refine XS.ifNo X70.here hx rfl (hb hby at_152) rfl ((if0 _ _).trans (feq (by decide)).1) ?_
      show Steps p.tables e below (T70.setTop (mkF m 155 #[iv p0, iv p1, iv p2, iv p3, iv p4, rv b2, iv (2 : Int32), rv b54, rv bo62] [])) _
      refine XS.aload X70.here hx rfl (hb hby at_155) rfl rfl ?_
      show Steps p.tables e below (T70.setTop (mkF m 157 #[iv p0, iv p1, iv p2, iv p3, iv p4, rv b2, iv (2 : Int32), rv b54, rv bo62] [(.ref bo62)])) _
      refine XS.aload X70.here hx rfl (hb hby at_157) rfl rfl ?_
      show Steps p.tables e below (T70.setTop (mkF m 159 #[iv p0, iv p1, iv p2, iv p3, iv p4, rv b2, iv (2 : Int32), rv b54, rv bo62] [(.ref b54), (.ref bo62)])) _
      refine XS.iconst X70.here hx rfl (hb hby at_159) ?_
      show Steps p.tables e below (T70.setTop (mkF m 160 #[iv p0, iv p1, iv p2, iv p3, iv p4, rv b2, iv (2 : Int32), rv b54, rv bo62] [(.int (2 : Int32)), (.ref b54), (.ref bo62)])) _
      refine XS.aload X70.here hx rfl (hb hby at_160) rfl rfl ?_
      show Steps p.tables e below (T70.setTop (mkF m 162 #[iv p0, iv p1, iv p2, iv p3, iv p4, rv b2, iv (2 : Int32), rv b54, rv bo62] [(.ref b2), (.int (2 : Int32)), (.ref b54), (.ref bo62)])) _
      refine XS.iconst X70.here hx rfl (hb hby at_162) ?_
      show Steps p.tables e below (T70.setTop (mkF m 163 #[iv p0, iv p1, iv p2, iv p3, iv p4, rv b2, iv (2 : Int32), rv b54, rv bo62] [(.int (2 : Int32)), (.ref b2), (.int (2 : Int32)), (.ref b54), (.ref bo62)])) _
      refine X70.baloadBytes hx (j := (2 : Int32)) (v := (.int (p2.toInt8.toInt32))) (by rw [hh70]; exact Ar71.1) (State.isArrayOf_alike hZ.alike Ar71.2.1) Ar71.2.2 hin71 hat71 (g := (mkF m 163 #[iv p0, iv p1, iv p2, iv p3, iv p4, rv b2, iv (2 : Int32), rv b54, rv bo62] [(.int (2 : Int32)), (.ref b2), (.int (2 : Int32)), (.ref b54), (.ref bo62)])) rfl rfl (hb hby at_163) _ ?_
      exact kt
    obtain ⟨_, _, ⟨T73, L73, k73, n73⟩, -, X73, ⟨Lc73, hQ73, l73, y73, z73⟩, st73⟩ := Jvm.LawKit.callS X70 hx (y := (⟨"com/example/ereikoussa/ereikoussa/dns/DnsNameLowerCasePinLaw", "at", "([B[BIB)Z"⟩ : MethodName)) hown (mvT hZ (hw _ (List.mem_of_getElem? (i := 14) rfl))) (mvT hZ (hw _ (List.mem_of_getElem? (i := 15) rfl))) (mvT hZ (hw _ (List.mem_of_getElem? (i := 16) rfl))) (mvT hZ (hw _ (List.mem_of_getElem? (i := 17) rfl))) (by decide) (backOf (W := 0) (rm2 l Z a0 hw [] bo62 b54 (2 : Int32) (p2.toInt8.toInt32) k54 k54 (2 : Int32) [(.int (own_lowb (p0.toInt8.toInt32))), (.int (own_lowb (p1.toInt8.toInt32)))] [(.int (p0.toInt8.toInt32)), (.int (p1.toInt8.toInt32))] (.int (0 : Int32)) (.int (0 : Int32)) T62.heap n0 (Nat.le_trans Z0 K62.1) Vp62 (V60.keep Kc62 nin0) (by decide) (fun q => absurd q (by decide))) hZ (hw _ (List.mem_of_getElem? (i := 17) rfl)) (hw _ (List.mem_of_getElem? (i := 16) rfl)) (by decide) (by decide)) (g := (mkF m 164 #[iv p0, iv p1, iv p2, iv p3, iv p4, rv b2, iv (2 : Int32), rv b54, rv bo62] [(.int (p2.toInt8.toInt32)), (.int (2 : Int32)), (.ref b54), (.ref bo62)])) rfl (by rw [hml]; rfl) (argsL := [(.ref bo62), (.ref b54), (.int (2 : Int32)), (.int (p2.toInt8.toInt32))]) (rest := []) (lenOf pd4 rfl) rfl (by show 2 * 0 + _ ≤ _; exact Nat.le_of_eq rfl) (hb hby at_164) (fun _ _ => ⟨rfl, hh70, (by decide : 3 + 0 ≤ _), (by decide : 10 + 0 ≤ _)⟩)
    dsimp only [Pt.U, Pt.locs, Pt.cells, Pt.slots] at X73 l73 y73 z73 st73 hQ73
    subst l73 y73 z73
    obtain ⟨rfl, N73q, hh73⟩ := hQ73
    have N73 := Fr.app N70 N73q
    obtain ⟨cl74, Ar74, q74, S74, M74, H74, G74⟩ := id ((((V10.ext E54).other W57 (Nat.ne_of_lt (Nat.lt_of_lt_of_le V10.lt (Nat.le_of_eq g54.symm)))).other W60 (Nat.ne_of_lt (Nat.lt_of_lt_of_le V10.lt (Nat.le_of_eq g54.symm)))).keep Kc62 nin0)
    have hin74 : ¬ ((3 : Int32) < 0 ∨ cl74.slots.size ≤ ((3 : Int32)).toNatClampNeg) := inb_of S74 ⟨by decide, by decide⟩
    have hat74 : cl74.slots[((3 : Int32)).toNatClampNeg]? = some (.int (p3.toInt8.toInt32)) := H74.at hin74 rfl
    have pre75 : ∀ t, Steps p.tables e below (T73.setTop (mkF m 179 #[iv p0, iv p1, iv p2, iv p3, iv p4, rv b2, iv (2 : Int32), rv b54, rv bo62] [(.int (p3.toInt8.toInt32)), (.int (3 : Int32)), (.ref b54), (.ref bo62)])) t → Steps p.tables e below (s₁.setTop (entryFrame m #[(.int p0), (.int p1), (.int p2), (.int p3), (.int p4)] maxLocals)) t := by
      intro t kt
      refine pre72 _ ?_
      show Steps p.tables e below (T70.setTop (mkF m 164 #[iv p0, iv p1, iv p2, iv p3, iv p4, rv b2, iv (2 : Int32), rv b54, rv bo62] [(.int (p2.toInt8.toInt32)), (.int (2 : Int32)), (.ref b54), (.ref bo62)])) _
      refine st73 _ ?_
      show Steps p.tables e below (T73.setTop (mkF m 167 #[iv p0, iv p1, iv p2, iv p3, iv p4, rv b2, iv (2 : Int32), rv b54, rv bo62] [(.int (1 : Int32))])) _
      refine XS.ifNo X73.here hx rfl (hb hby at_167) rfl ((if0 _ _).trans (feq (by decide)).1) ?_
      show Steps p.tables e below (T73.setTop (mkF m 170 #[iv p0, iv p1, iv p2, iv p3, iv p4, rv b2, iv (2 : Int32), rv b54, rv bo62] [])) _
      refine XS.aload X73.here hx rfl (hb hby at_170) rfl rfl ?_
      show Steps p.tables e below (T73.setTop (mkF m 172 #[iv p0, iv p1, iv p2, iv p3, iv p4, rv b2, iv (2 : Int32), rv b54, rv bo62] [(.ref bo62)])) _
      refine XS.aload X73.here hx rfl (hb hby at_172) rfl rfl ?_
      show Steps p.tables e below (T73.setTop (mkF m 174 #[iv p0, iv p1, iv p2, iv p3, iv p4, rv b2, iv (2 : Int32), rv b54, rv bo62] [(.ref b54), (.ref bo62)])) _
      refine XS.iconst X73.here hx rfl (hb hby at_174) ?_
      show Steps p.tables e below (T73.setTop (mkF m 175 #[iv p0, iv p1, iv p2, iv p3, iv p4, rv b2, iv (2 : Int32), rv b54, rv bo62] [(.int (3 : Int32)), (.ref b54), (.ref bo62)])) _
      refine XS.aload X73.here hx rfl (hb hby at_175) rfl rfl ?_
      show Steps p.tables e below (T73.setTop (mkF m 177 #[iv p0, iv p1, iv p2, iv p3, iv p4, rv b2, iv (2 : Int32), rv b54, rv bo62] [(.ref b2), (.int (3 : Int32)), (.ref b54), (.ref bo62)])) _
      refine XS.iconst X73.here hx rfl (hb hby at_177) ?_
      show Steps p.tables e below (T73.setTop (mkF m 178 #[iv p0, iv p1, iv p2, iv p3, iv p4, rv b2, iv (2 : Int32), rv b54, rv bo62] [(.int (3 : Int32)), (.ref b2), (.int (3 : Int32)), (.ref b54), (.ref bo62)])) _
      refine X73.baloadBytes hx (j := (3 : Int32)) (v := (.int (p3.toInt8.toInt32))) (by rw [hh73]; exact Ar74.1) (State.isArrayOf_alike hZ.alike Ar74.2.1) Ar74.2.2 hin74 hat74 (g := (mkF m 178 #[iv p0, iv p1, iv p2, iv p3, iv p4, rv b2, iv (2 : Int32), rv b54, rv bo62] [(.int (3 : Int32)), (.ref b2), (.int (3 : Int32)), (.ref b54), (.ref bo62)])) rfl rfl (hb hby at_178) _ ?_
      exact kt
    obtain ⟨_, _, ⟨T76, L76, k76, n76⟩, -, X76, ⟨Lc76, hQ76, l76, y76, z76⟩, st76⟩ := Jvm.LawKit.callS X73 hx (y := (⟨"com/example/ereikoussa/ereikoussa/dns/DnsNameLowerCasePinLaw", "at", "([B[BIB)Z"⟩ : MethodName)) hown (mvT hZ (hw _ (List.mem_of_getElem? (i := 14) rfl))) (mvT hZ (hw _ (List.mem_of_getElem? (i := 15) rfl))) (mvT hZ (hw _ (List.mem_of_getElem? (i := 16) rfl))) (mvT hZ (hw _ (List.mem_of_getElem? (i := 17) rfl))) (by decide) (backOf (W := 0) (rm2 l Z a0 hw [] bo62 b54 (3 : Int32) (p3.toInt8.toInt32) k54 k54 (2 : Int32) [(.int (own_lowb (p0.toInt8.toInt32))), (.int (own_lowb (p1.toInt8.toInt32)))] [(.int (p0.toInt8.toInt32)), (.int (p1.toInt8.toInt32))] (.int (0 : Int32)) (.int (0 : Int32)) T62.heap n0 (Nat.le_trans Z0 K62.1) Vp62 (V60.keep Kc62 nin0) (by decide) (fun q => absurd q (by decide))) hZ (hw _ (List.mem_of_getElem? (i := 17) rfl)) (hw _ (List.mem_of_getElem? (i := 16) rfl)) (by decide) (by decide)) (g := (mkF m 179 #[iv p0, iv p1, iv p2, iv p3, iv p4, rv b2, iv (2 : Int32), rv b54, rv bo62] [(.int (p3.toInt8.toInt32)), (.int (3 : Int32)), (.ref b54), (.ref bo62)])) rfl (by rw [hml]; rfl) (argsL := [(.ref bo62), (.ref b54), (.int (3 : Int32)), (.int (p3.toInt8.toInt32))]) (rest := []) (lenOf pd4 rfl) rfl (by show 2 * 0 + _ ≤ _; exact Nat.le_of_eq rfl) (hb hby at_179) (fun _ _ => ⟨rfl, hh73, (by decide : 3 + 0 ≤ _), (by decide : 10 + 0 ≤ _)⟩)
    dsimp only [Pt.U, Pt.locs, Pt.cells, Pt.slots] at X76 l76 y76 z76 st76 hQ76
    subst l76 y76 z76
    obtain ⟨rfl, N76q, hh76⟩ := hQ76
    have N76 := Fr.app N73 N76q
    have pre77 : ∀ t, Steps p.tables e below (T76.setTop (mkF m 190 #[iv p0, iv p1, iv p2, iv p3, iv p4, rv b2, iv (2 : Int32), rv b54, rv bo62] [(.int (1 : Int32))])) t → Steps p.tables e below (s₁.setTop (entryFrame m #[(.int p0), (.int p1), (.int p2), (.int p3), (.int p4)] maxLocals)) t := by
      intro t kt
      refine pre75 _ ?_
      show Steps p.tables e below (T73.setTop (mkF m 179 #[iv p0, iv p1, iv p2, iv p3, iv p4, rv b2, iv (2 : Int32), rv b54, rv bo62] [(.int (p3.toInt8.toInt32)), (.int (3 : Int32)), (.ref b54), (.ref bo62)])) _
      refine st76 _ ?_
      show Steps p.tables e below (T76.setTop (mkF m 182 #[iv p0, iv p1, iv p2, iv p3, iv p4, rv b2, iv (2 : Int32), rv b54, rv bo62] [(.int (1 : Int32))])) _
      refine XS.ifNo X76.here hx rfl (hb hby at_182) rfl ((if0 _ _).trans (feq (by decide)).1) ?_
      show Steps p.tables e below (T76.setTop (mkF m 185 #[iv p0, iv p1, iv p2, iv p3, iv p4, rv b2, iv (2 : Int32), rv b54, rv bo62] [])) _
      refine XS.iconst X76.here hx rfl (hb hby at_185) ?_
      show Steps p.tables e below (T76.setTop (mkF m 186 #[iv p0, iv p1, iv p2, iv p3, iv p4, rv b2, iv (2 : Int32), rv b54, rv bo62] [(.int (1 : Int32))])) _
      refine XS.goto X76.here hx rfl (pc0 := 186) (pc' := 190) rfl (hb hby at_186) (by decide) (by decide) ?_
      exact kt
    obtain ⟨fs, hr, hrun, hended, hW, hsame⟩ := X76.leave (v := some (.int (1 : Int32))) (fun h => by rw [Bd.returns] at h; cases h)
    refine ⟨_, _, pre77 _ ?_, hrun, hended, _, _, rfl, ?_, ⟨_, rfl⟩, hW, hsame.mono (by decide) (by decide)⟩
    · show Steps p.tables e below (T76.setTop (mkF m 190 #[iv p0, iv p1, iv p2, iv p3, iv p4, rv b2, iv (2 : Int32), rv b54, rv bo62] [(.int (1 : Int32))])) _
      exact retN X76 hx (t := .boolean) Bd.returns (by simp) (hb hby at_190) hr
    · show Q0 Z p0 p1 p2 p3 p4 h0 n0 _ T76.heap _
      rw [hh76]
      exact ⟨rfl, N76⟩
  · have pre78 : ∀ t, Steps p.tables e below (T10.setTop (mkF m 36 #[iv p0, iv p1, iv p2, iv p3, iv p4, rv b2, iv (3 : Int32), .unset, .unset] [(.int (3 : Int32))])) t → Steps p.tables e below (s₁.setTop (entryFrame m #[(.int p0), (.int p1), (.int p2), (.int p3), (.int p4)] maxLocals)) t := by
      intro t kt
      refine pre11 _ ?_
      show Steps p.tables e below (T10.setTop (mkF m 34 #[iv p0, iv p1, iv p2, iv p3, iv p4, rv b2, iv ((p4 &&& (7 : Int32)) % (5 : Int32)), .unset, .unset] [])) _
      rw [h5]
      show Steps p.tables e below (T10.setTop (mkF m 34 #[iv p0, iv p1, iv p2, iv p3, iv p4, rv b2, iv (3 : Int32), .unset, .unset] [])) _
      refine XS.iload X10.here hx rfl (hb hby at_34) rfl ?_
      exact kt
    obtain ⟨T79, h79, k79, X79, e79, E79, A79, Ex79, st79⟩ := newPE X10 hx hZ (hw _ (List.mem_of_getElem? (i := 0) rfl)) e10 (g := (mkF m 36 #[iv p0, iv p1, iv p2, iv p3, iv p4, rv b2, iv (3 : Int32), .unset, .unset] [(.int (3 : Int32))])) rfl (hb hby at_36) rfl (by decide) (cap := 3) (by decide) (by decide) (by decide) (by decide) (ad := "[B") rfl
    obtain ⟨b79, g79⟩ : ∃ z, z = h10.size := ⟨_, rfl⟩
    rw [← g79] at A79 Ex79 st79
    have g_b79 : n0 ≤ b79 := Nat.le_trans (Nat.le_trans Z0 K10.1) (Nat.le_of_eq g79.symm)
    have sz_b79 : h0.size ≤ b79 := Nat.le_trans K10.1 (Nat.le_of_eq g79.symm)
    have V_b79 : Arv Z h79 b79 k79 .byte (3 : Int32) [(.int (0 : Int32)), (.int (0 : Int32)), (.int (0 : Int32))] (.int (0 : Int32)) := (Arv.new A79 (by decide)).pad (pad_rep [] (.int (0 : Int32)) 3)
    have K79 : Keep h0 h79 [] := K10.ext E79
    obtain ⟨cl80, Ar80, q80, S80, M80, H80, G80⟩ := id (V10.ext E79)
    have hin80 : ¬ ((0 : Int32) < 0 ∨ cl80.slots.size ≤ ((0 : Int32)).toNatClampNeg) := inb_of S80 ⟨by decide, by decide⟩
    have hat80 : cl80.slots[((0 : Int32)).toNatClampNeg]? = some (.int (p0.toInt8.toInt32)) := H80.at hin80 rfl
    have pre81 : ∀ t, Steps p.tables e below (T79.setTop (mkF m 52 #[iv p0, iv p1, iv p2, iv p3, iv p4, rv b2, iv (3 : Int32), rv b79, .unset] [(.int (p0.toInt8.toInt32)), (.int (0 : Int32)), (.ref b79)])) t → Steps p.tables e below (s₁.setTop (entryFrame m #[(.int p0), (.int p1), (.int p2), (.int p3), (.int p4)] maxLocals)) t := by
      intro t kt
      refine pre78 _ ?_
      show Steps p.tables e below (T10.setTop (mkF m 36 #[iv p0, iv p1, iv p2, iv p3, iv p4, rv b2, iv (3 : Int32), .unset, .unset] [(.int (3 : Int32))])) _
      refine st79 _ ?_
      show Steps p.tables e below (T79.setTop (mkF m 38 #[iv p0, iv p1, iv p2, iv p3, iv p4, rv b2, iv (3 : Int32), .unset, .unset] [(.ref b79)])) _
      refine XS.astore X79.here hx rfl (hb hby at_38) rfl rfl (l' := #[iv p0, iv p1, iv p2, iv p3, iv p4, rv b2, iv (3 : Int32), rv b79, .unset]) rfl ?_
      show Steps p.tables e below (T79.setTop (mkF m 40 #[iv p0, iv p1, iv p2, iv p3, iv p4, rv b2, iv (3 : Int32), rv b79, .unset] [])) _
      refine XS.iload X79.here hx rfl (hb hby at_40) rfl ?_
      show Steps p.tables e below (T79.setTop (mkF m 42 #[iv p0, iv p1, iv p2, iv p3, iv p4, rv b2, iv (3 : Int32), rv b79, .unset] [(.int (3 : Int32))])) _
      refine XS.ifNo X79.here hx rfl (hb hby at_42) rfl ((if0 _ _).trans (tlt (by decide)).2.2.2) ?_
      show Steps p.tables e below (T79.setTop (mkF m 45 #[iv p0, iv p1, iv p2, iv p3, iv p4, rv b2, iv (3 : Int32), rv b79, .unset] [])) _
      refine XS.aload X79.here hx rfl (hb hby at_45) rfl rfl ?_
      show Steps p.tables e below (T79.setTop (mkF m 47 #[iv p0, iv p1, iv p2, iv p3, iv p4, rv b2, iv (3 : Int32), rv b79, .unset] [(.ref b79)])) _
      refine XS.iconst X79.here hx rfl (hb hby at_47) ?_
      show Steps p.tables e below (T79.setTop (mkF m 48 #[iv p0, iv p1, iv p2, iv p3, iv p4, rv b2, iv (3 : Int32), rv b79, .unset] [(.int (0 : Int32)), (.ref b79)])) _
      refine XS.aload X79.here hx rfl (hb hby at_48) rfl rfl ?_
      show Steps p.tables e below (T79.setTop (mkF m 50 #[iv p0, iv p1, iv p2, iv p3, iv p4, rv b2, iv (3 : Int32), rv b79, .unset] [(.ref b2), (.int (0 : Int32)), (.ref b79)])) _
      refine XS.iconst X79.here hx rfl (hb hby at_50) ?_
      show Steps p.tables e below (T79.setTop (mkF m 51 #[iv p0, iv p1, iv p2, iv p3, iv p4, rv b2, iv (3 : Int32), rv b79, .unset] [(.int (0 : Int32)), (.ref b2), (.int (0 : Int32)), (.ref b79)])) _
      refine X79.baloadBytes hx (j := (0 : Int32)) (v := (.int (p0.toInt8.toInt32))) (by rw [e79]; exact Ar80.1) (State.isArrayOf_alike hZ.alike Ar80.2.1) Ar80.2.2 hin80 hat80 (g := (mkF m 51 #[iv p0, iv p1, iv p2, iv p3, iv p4, rv b2, iv (3 : Int32), rv b79, .unset] [(.int (0 : Int32)), (.ref b2), (.int (0 : Int32)), (.ref b79)])) rfl rfl (hb hby at_51) _ ?_
      exact kt
    obtain ⟨cl82, Ar82, q82, S82, M82, H82, G82⟩ := id V_b79
    have hin82 : ¬ ((0 : Int32) < 0 ∨ cl82.slots.size ≤ ((0 : Int32)).toNatClampNeg) := inb_of S82 ⟨by decide, by decide⟩
    obtain ⟨T82, h82, X82, e82, W82, st82⟩ := stB X79 hx hZ e79 Ar82 (j := (0 : Int32)) hin82 (g := (mkF m 52 #[iv p0, iv p1, iv p2, iv p3, iv p4, rv b2, iv (3 : Int32), rv b79, .unset] [(.int (p0.toInt8.toInt32)), (.int (0 : Int32)), (.ref b79)])) rfl rfl (hb hby at_52)
    have nn82 : nar .byte (p0.toInt8.toInt32) = (p0.toInt8.toInt32) := (own_nb _)
    rw [nn82] at W82
    have V82 : Arv Z h82 b79 k79 .byte (3 : Int32) [(.int (p0.toInt8.toInt32)), (.int (0 : Int32)), (.int (0 : Int32))] (.int (0 : Int32)) := Arv.set Ar82 q82 S82 M82 H82 G82 (own_fb nn82) W82 0 rfl (Nat.le_of_ble_eq_true rfl)
    have K82 : Keep h0 h82 [] := K79.wr W82 (Or.inr sz_b79)
    have N82 := Fr.snoc X82 N10 g_b79
    obtain ⟨cl83, Ar83, q83, S83, M83, H83, G83⟩ := id ((V10.ext E79).other W82 (Nat.ne_of_lt (Nat.lt_of_lt_of_le V10.lt (Nat.le_of_eq g79.symm))))
    have hin83 : ¬ ((1 : Int32) < 0 ∨ cl83.slots.size ≤ ((1 : Int32)).toNatClampNeg) := inb_of S83 ⟨by decide, by decide⟩
    have hat83 : cl83.slots[((1 : Int32)).toNatClampNeg]? = some (.int (p1.toInt8.toInt32)) := H83.at hin83 rfl
    have pre84 : ∀ t, Steps p.tables e below (T82.setTop (mkF m 66 #[iv p0, iv p1, iv p2, iv p3, iv p4, rv b2, iv (3 : Int32), rv b79, .unset] [(.int (p1.toInt8.toInt32)), (.int (1 : Int32)), (.ref b79)])) t → Steps p.tables e below (s₁.setTop (entryFrame m #[(.int p0), (.int p1), (.int p2), (.int p3), (.int p4)] maxLocals)) t := by
      intro t kt
      refine pre81 _ ?_
      show Steps p.tables e below (T79.setTop (mkF m 52 #[iv p0, iv p1, iv p2, iv p3, iv p4, rv b2, iv (3 : Int32), rv b79, .unset] [(.int (p0.toInt8.toInt32)), (.int (0 : Int32)), (.ref b79)])) _
      refine st82 _ ?_
      show Steps p.tables e below (T82.setTop (mkF m 53 #[iv p0, iv p1, iv p2, iv p3, iv p4, rv b2, iv (3 : Int32), rv b79, .unset] [])) _
      refine XS.iload X82.here hx rfl (hb hby at_53) rfl ?_
      show Steps p.tables e below (T82.setTop (mkF m 55 #[iv p0, iv p1, iv p2, iv p3, iv p4, rv b2, iv (3 : Int32), rv b79, .unset] [(.int (3 : Int32))])) _
      refine XS.iconst X82.here hx rfl (hb hby at_55) ?_
      show Steps p.tables e below (T82.setTop (mkF m 56 #[iv p0, iv p1, iv p2, iv p3, iv p4, rv b2, iv (3 : Int32), rv b79, .unset] [(.int (1 : Int32)), (.int (3 : Int32))])) _
      refine XS.icmpNo X82.here hx rfl (hb hby at_56) rfl (tlt (by decide)).2.2.2 ?_
      show Steps p.tables e below (T82.setTop (mkF m 59 #[iv p0, iv p1, iv p2, iv p3, iv p4, rv b2, iv (3 : Int32), rv b79, .unset] [])) _
      refine XS.aload X82.here hx rfl (hb hby at_59) rfl rfl ?_
      show Steps p.tables e below (T82.setTop (mkF m 61 #[iv p0, iv p1, iv p2, iv p3, iv p4, rv b2, iv (3 : Int32), rv b79, .unset] [(.ref b79)])) _
      refine XS.iconst X82.here hx rfl (hb hby at_61) ?_
      show Steps p.tables e below (T82.setTop (mkF m 62 #[iv p0, iv p1, iv p2, iv p3, iv p4, rv b2, iv (3 : Int32), rv b79, .unset] [(.int (1 : Int32)), (.ref b79)])) _
      refine XS.aload X82.here hx rfl (hb hby at_62) rfl rfl ?_
      show Steps p.tables e below (T82.setTop (mkF m 64 #[iv p0, iv p1, iv p2, iv p3, iv p4, rv b2, iv (3 : Int32), rv b79, .unset] [(.ref b2), (.int (1 : Int32)), (.ref b79)])) _
      refine XS.iconst X82.here hx rfl (hb hby at_64) ?_
      show Steps p.tables e below (T82.setTop (mkF m 65 #[iv p0, iv p1, iv p2, iv p3, iv p4, rv b2, iv (3 : Int32), rv b79, .unset] [(.int (1 : Int32)), (.ref b2), (.int (1 : Int32)), (.ref b79)])) _
      refine X82.baloadBytes hx (j := (1 : Int32)) (v := (.int (p1.toInt8.toInt32))) (by rw [e82]; exact Ar83.1) (State.isArrayOf_alike hZ.alike Ar83.2.1) Ar83.2.2 hin83 hat83 (g := (mkF m 65 #[iv p0, iv p1, iv p2, iv p3, iv p4, rv b2, iv (3 : Int32), rv b79, .unset] [(.int (1 : Int32)), (.ref b2), (.int (1 : Int32)), (.ref b79)])) rfl rfl (hb hby at_65) _ ?_
      exact kt
    obtain ⟨cl85, Ar85, q85, S85, M85, H85, G85⟩ := id V82
    have hin85 : ¬ ((1 : Int32) < 0 ∨ cl85.slots.size ≤ ((1 : Int32)).toNatClampNeg) := inb_of S85 ⟨by decide, by decide⟩
    obtain ⟨T85, h85, X85, e85, W85, st85⟩ := stB X82 hx hZ e82 Ar85 (j := (1 : Int32)) hin85 (g := (mkF m 66 #[iv p0, iv p1, iv p2, iv p3, iv p4, rv b2, iv (3 : Int32), rv b79, .unset] [(.int (p1.toInt8.toInt32)), (.int (1 : Int32)), (.ref b79)])) rfl rfl (hb hby at_66)
    have nn85 : nar .byte (p1.toInt8.toInt32) = (p1.toInt8.toInt32) := (own_nb _)
    rw [nn85] at W85
    have V85 : Arv Z h85 b79 k79 .byte (3 : Int32) [(.int (p0.toInt8.toInt32)), (.int (p1.toInt8.toInt32)), (.int (0 : Int32))] (.int (0 : Int32)) := Arv.set Ar85 q85 S85 M85 H85 G85 (own_fb nn85) W85 1 rfl (Nat.le_of_ble_eq_true rfl)
    have K85 : Keep h0 h85 [] := K82.wr W85 (Or.inr sz_b79)
    have N85 := Fr.snoc X85 N82 g_b79
    obtain ⟨cl86, Ar86, q86, S86, M86, H86, G86⟩ := id (((V10.ext E79).other W82 (Nat.ne_of_lt (Nat.lt_of_lt_of_le V10.lt (Nat.le_of_eq g79.symm)))).other W85 (Nat.ne_of_lt (Nat.lt_of_lt_of_le V10.lt (Nat.le_of_eq g79.symm))))
    have hin86 : ¬ ((2 : Int32) < 0 ∨ cl86.slots.size ≤ ((2 : Int32)).toNatClampNeg) := inb_of S86 ⟨by decide, by decide⟩
    have hat86 : cl86.slots[((2 : Int32)).toNatClampNeg]? = some (.int (p2.toInt8.toInt32)) := H86.at hin86 rfl
    have pre87 : ∀ t, Steps p.tables e below (T85.setTop (mkF m 80 #[iv p0, iv p1, iv p2, iv p3, iv p4, rv b2, iv (3 : Int32), rv b79, .unset] [(.int (p2.toInt8.toInt32)), (.int (2 : Int32)), (.ref b79)])) t → Steps p.tables e below (s₁.setTop (entryFrame m #[(.int p0), (.int p1), (.int p2), (.int p3), (.int p4)] maxLocals)) t := by
      intro t kt
      refine pre84 _ ?_
      show Steps p.tables e below (T82.setTop (mkF m 66 #[iv p0, iv p1, iv p2, iv p3, iv p4, rv b2, iv (3 : Int32), rv b79, .unset] [(.int (p1.toInt8.toInt32)), (.int (1 : Int32)), (.ref b79)])) _
      refine st85 _ ?_
      show Steps p.tables e below (T85.setTop (mkF m 67 #[iv p0, iv p1, iv p2, iv p3, iv p4, rv b2, iv (3 : Int32), rv b79, .unset] [])) _
      refine XS.iload X85.here hx rfl (hb hby at_67) rfl ?_
      show Steps p.tables e below (T85.setTop (mkF m 69 #[iv p0, iv p1, iv p2, iv p3, iv p4, rv b2, iv (3 : Int32), rv b79, .unset] [(.int (3 : Int32))])) _
      refine XS.iconst X85.here hx rfl (hb hby at_69) ?_
      show Steps p.tables e below (T85.setTop (mkF m 70 #[iv p0, iv p1, iv p2, iv p3, iv p4, rv b2, iv (3 : Int32), rv b79, .unset] [(.int (2 : Int32)), (.int (3 : Int32))])) _
      refine XS.icmpNo X85.here hx rfl (hb hby at_70) rfl (tlt (by decide)).2.2.2 ?_
      show Steps p.tables e below (T85.setTop (mkF m 73 #[iv p0, iv p1, iv p2, iv p3, iv p4, rv b2, iv (3 : Int32), rv b79, .unset] [])) _
      refine XS.aload X85.here hx rfl (hb hby at_73) rfl rfl ?_
      show Steps p.tables e below (T85.setTop (mkF m 75 #[iv p0, iv p1, iv p2, iv p3, iv p4, rv b2, iv (3 : Int32), rv b79, .unset] [(.ref b79)])) _
      refine XS.iconst X85.here hx rfl (hb hby at_75) ?_
      show Steps p.tables e below (T85.setTop (mkF m 76 #[iv p0, iv p1, iv p2, iv p3, iv p4, rv b2, iv (3 : Int32), rv b79, .unset] [(.int (2 : Int32)), (.ref b79)])) _
      refine XS.aload X85.here hx rfl (hb hby at_76) rfl rfl ?_
      show Steps p.tables e below (T85.setTop (mkF m 78 #[iv p0, iv p1, iv p2, iv p3, iv p4, rv b2, iv (3 : Int32), rv b79, .unset] [(.ref b2), (.int (2 : Int32)), (.ref b79)])) _
      refine XS.iconst X85.here hx rfl (hb hby at_78) ?_
      show Steps p.tables e below (T85.setTop (mkF m 79 #[iv p0, iv p1, iv p2, iv p3, iv p4, rv b2, iv (3 : Int32), rv b79, .unset] [(.int (2 : Int32)), (.ref b2), (.int (2 : Int32)), (.ref b79)])) _
      refine X85.baloadBytes hx (j := (2 : Int32)) (v := (.int (p2.toInt8.toInt32))) (by rw [e85]; exact Ar86.1) (State.isArrayOf_alike hZ.alike Ar86.2.1) Ar86.2.2 hin86 hat86 (g := (mkF m 79 #[iv p0, iv p1, iv p2, iv p3, iv p4, rv b2, iv (3 : Int32), rv b79, .unset] [(.int (2 : Int32)), (.ref b2), (.int (2 : Int32)), (.ref b79)])) rfl rfl (hb hby at_79) _ ?_
      exact kt
    obtain ⟨cl88, Ar88, q88, S88, M88, H88, G88⟩ := id V85
    have hin88 : ¬ ((2 : Int32) < 0 ∨ cl88.slots.size ≤ ((2 : Int32)).toNatClampNeg) := inb_of S88 ⟨by decide, by decide⟩
    obtain ⟨T88, h88, X88, e88, W88, st88⟩ := stB X85 hx hZ e85 Ar88 (j := (2 : Int32)) hin88 (g := (mkF m 80 #[iv p0, iv p1, iv p2, iv p3, iv p4, rv b2, iv (3 : Int32), rv b79, .unset] [(.int (p2.toInt8.toInt32)), (.int (2 : Int32)), (.ref b79)])) rfl rfl (hb hby at_80)
    have nn88 : nar .byte (p2.toInt8.toInt32) = (p2.toInt8.toInt32) := (own_nb _)
    rw [nn88] at W88
    have V88 : Arv Z h88 b79 k79 .byte (3 : Int32) [(.int (p0.toInt8.toInt32)), (.int (p1.toInt8.toInt32)), (.int (p2.toInt8.toInt32))] (.int (0 : Int32)) := Arv.set Ar88 q88 S88 M88 H88 G88 (own_fb nn88) W88 2 rfl (Nat.le_of_ble_eq_true rfl)
    have K88 : Keep h0 h88 [] := K85.wr W88 (Or.inr sz_b79)
    have N88 := Fr.snoc X88 N85 g_b79
    have pre89 : ∀ t, Steps p.tables e below (T88.setTop (mkF m 97 #[iv p0, iv p1, iv p2, iv p3, iv p4, rv b2, iv (3 : Int32), rv b79, .unset] [(.ref b79)])) t → Steps p.tables e below (s₁.setTop (entryFrame m #[(.int p0), (.int p1), (.int p2), (.int p3), (.int p4)] maxLocals)) t := by
      intro t kt
      refine pre87 _ ?_
      show Steps p.tables e below (T85.setTop (mkF m 80 #[iv p0, iv p1, iv p2, iv p3, iv p4, rv b2, iv (3 : Int32), rv b79, .unset] [(.int (p2.toInt8.toInt32)), (.int (2 : Int32)), (.ref b79)])) _
      refine st88 _ ?_
      show Steps p.tables e below (T88.setTop (mkF m 81 #[iv p0, iv p1, iv p2, iv p3, iv p4, rv b2, iv (3 : Int32), rv b79, .unset] [])) _
      refine XS.iload X88.here hx rfl (hb hby at_81) rfl ?_
      show Steps p.tables e below (T88.setTop (mkF m 83 #[iv p0, iv p1, iv p2, iv p3, iv p4, rv b2, iv (3 : Int32), rv b79, .unset] [(.int (3 : Int32))])) _
      refine XS.iconst X88.here hx rfl (hb hby at_83) ?_
      show Steps p.tables e below (T88.setTop (mkF m 84 #[iv p0, iv p1, iv p2, iv p3, iv p4, rv b2, iv (3 : Int32), rv b79, .unset] [(.int (3 : Int32)), (.int (3 : Int32))])) _
      refine XS.icmpYes X88.here hx rfl (pc0 := 84) (pc' := 95) rfl (hb hby at_84) rfl (flt (by decide)).2.2.2 (by decide) (by decide) ?_
      show Steps p.tables e below (T88.setTop (mkF m 95 #[iv p0, iv p1, iv p2, iv p3, iv p4, rv b2, iv (3 : Int32), rv b79, .unset] [])) _
      refine XS.aload X88.here hx rfl (hb hby at_95) rfl rfl ?_
      exact kt
    obtain ⟨_, _, ⟨T90, L90, k90, n90⟩, -, X90, ⟨Lc90, hQ90, l90, y90, z90⟩, st90⟩ := Jvm.LawKit.callS X88 hx (y := (⟨"com/example/ereikoussa/ereikoussa/dns/DnsName", "lowerCase", "([B)[B"⟩ : MethodName)) hown (mvT hZ (hw _ (List.mem_of_getElem? (i := 1) rfl))) (mvT hZ (hw _ (List.mem_of_getElem? (i := 2) rfl))) (mvT hZ (hw _ (List.mem_of_getElem? (i := 3) rfl))) (mvT hZ (hw _ (List.mem_of_getElem? (i := 4) rfl))) (by decide) (backOf (W := 0) (rm1 l Z a0 hw [] b79 k79 (fun k => ([(p0.toInt8.toInt32), (p1.toInt8.toInt32), (p2.toInt8.toInt32)] : List Int32).getD k 0) 3 h88 n0 (Nat.le_trans Z0 K88.1) (by decide) V88 (((Ex79.wr W82).wr W85).wr W88)) hZ (hw _ (List.mem_of_getElem? (i := 4) rfl)) (hw _ (List.mem_of_getElem? (i := 3) rfl)) (by decide) (by decide)) (g := (mkF m 97 #[iv p0, iv p1, iv p2, iv p3, iv p4, rv b2, iv (3 : Int32), rv b79, .unset] [(.ref b79)])) rfl (by rw [hml]; rfl) (argsL := [(.ref b79)]) (rest := []) (lenOf pd3 rfl) rfl (by show 2 * 0 + _ ≤ _; exact Nat.le_of_eq rfl) (hb hby at_97) (fun _ _ => ⟨rfl, e88, (by decide : 2 + 1 ≤ _), (by decide : 7 + 4 ≤ _)⟩)
    dsimp only [Pt.U, Pt.locs, Pt.cells, Pt.slots] at X90 l90 y90 z90 st90 hQ90
    subst l90 y90 z90
    obtain ⟨bo90, rfl, N90q, Kc90, Vo90⟩ := hQ90
    have N90 := Fr.app N88 N90q
    have K90 : Keep h0 T90.heap [] := K88.trans Kc90 all0
    have Vp90 : Arv Z T90.heap bo90 k79 .byte (3 : Int32) [(.int (own_lowb (p0.toInt8.toInt32))), (.int (own_lowb (p1.toInt8.toInt32))), (.int (own_lowb (p2.toInt8.toInt32)))] (.int (0 : Int32)) := Vo90
    obtain ⟨cl91, Ar91, -, S91, M91, -, -⟩ := id Vp90
    obtain ⟨cl92, Ar92, -, S92, M92, -, -⟩ := id (V88.keep Kc90 nin0)
    obtain ⟨cl93, Ar93, q93, S93, M93, H93, G93⟩ := id (((((V10.ext E79).other W82 (Nat.ne_of_lt (Nat.lt_of_lt_of_le V10.lt (Nat.le_of_eq g79.symm)))).other W85 (Nat.ne_of_lt (Nat.lt_of_lt_of_le V10.lt (Nat.le_of_eq g79.symm)))).other W88 (Nat.ne_of_lt (Nat.lt_of_lt_of_le V10.lt (Nat.le_of_eq g79.symm)))).keep Kc90 nin0)
    have hin93 : ¬ ((0 : Int32) < 0 ∨ cl93.slots.size ≤ ((0 : Int32)).toNatClampNeg) := inb_of S93 ⟨by decide, by decide⟩
    have hat93 : cl93.slots[((0 : Int32)).toNatClampNeg]? = some (.int (p0.toInt8.toInt32)) := H93.at hin93 rfl
    have pre94 : ∀ t, Steps p.tables e below (T90.setTop (mkF m 134 #[iv p0, iv p1, iv p2, iv p3, iv p4, rv b2, iv (3 : Int32), rv b79, rv bo90] [(.int (p0.toInt8.toInt32)), (.int (0 : Int32)), (.ref b79), (.ref bo90)])) t → Steps p.tables e below (s₁.setTop (entryFrame m #[(.int p0), (.int p1), (.int p2), (.int p3), (.int p4)] maxLocals)) t := by
      intro t kt
      refine pre89 _ ?_
      show Steps p.tables e below (T88.setTop (mkF m 97 #[iv p0, iv p1, iv p2, iv p3, iv p4, rv b2, iv (3 : Int32), rv b79, .unset] [(.ref b79)])) _
      refine st90 _ ?_
      show Steps p.tables e below (T90.setTop (mkF m 100 #[iv p0, iv p1, iv p2, iv p3, iv p4, rv b2, iv (3 : Int32), rv b79, .unset] [(.ref bo90)])) _
      refine XS.astore X90.here hx rfl (hb hby at_100) rfl rfl (l' := #[iv p0, iv p1, iv p2, iv p3, iv p4, rv b2, iv (3 : Int32), rv b79, rv bo90]) rfl ?_
      show Steps p.tables e below (T90.setTop (mkF m 102 #[iv p0, iv p1, iv p2, iv p3, iv p4, rv b2, iv (3 : Int32), rv b79, rv bo90] [])) _
      refine XS.aload X90.here hx rfl (hb hby at_102) rfl rfl ?_
      show Steps p.tables e below (T90.setTop (mkF m 104 #[iv p0, iv p1, iv p2, iv p3, iv p4, rv b2, iv (3 : Int32), rv b79, rv bo90] [(.ref bo90)])) _
      refine XS.ifnullNo X90.here hx rfl (hb hby at_104) rfl ?_
      show Steps p.tables e below (T90.setTop (mkF m 107 #[iv p0, iv p1, iv p2, iv p3, iv p4, rv b2, iv (3 : Int32), rv b79, rv bo90] [])) _
      refine XS.aload X90.here hx rfl (hb hby at_107) rfl rfl ?_
      show Steps p.tables e below (T90.setTop (mkF m 109 #[iv p0, iv p1, iv p2, iv p3, iv p4, rv b2, iv (3 : Int32), rv b79, rv bo90] [(.ref bo90)])) _
      refine X90.arraylength hx Ar91.1 (State.isArrayOf_alike hZ.alike Ar91.2.1) (g := (mkF m 109 #[iv p0, iv p1, iv p2, iv p3, iv p4, rv b2, iv (3 : Int32), rv b79, rv bo90] [(.ref bo90)])) rfl rfl (hb hby at_109) _ ?_
      rw [len_of S91 M91]
      show Steps p.tables e below (T90.setTop (mkF m 110 #[iv p0, iv p1, iv p2, iv p3, iv p4, rv b2, iv (3 : Int32), rv b79, rv bo90] [(.int (3 : Int32))])) _
      refine XS.iload X90.here hx rfl (hb hby at_110) rfl ?_
      show Steps p.tables e below (T90.setTop (mkF m 112 #[iv p0, iv p1, iv p2, iv p3, iv p4, rv b2, iv (3 : Int32), rv b79, rv bo90] [(.int (3 : Int32)), (.int (3 : Int32))])) _
      refine XS.icmpNo X90.here hx rfl (hb hby at_112) rfl (teq (by decide)).2 ?_
      show Steps p.tables e below (T90.setTop (mkF m 115 #[iv p0, iv p1, iv p2, iv p3, iv p4, rv b2, iv (3 : Int32), rv b79, rv bo90] [])) _
      refine XS.aload X90.here hx rfl (hb hby at_115) rfl rfl ?_
      show Steps p.tables e below (T90.setTop (mkF m 117 #[iv p0, iv p1, iv p2, iv p3, iv p4, rv b2, iv (3 : Int32), rv b79, rv bo90] [(.ref b79)])) _
      refine X90.arraylength hx Ar92.1 (State.isArrayOf_alike hZ.alike Ar92.2.1) (g := (mkF m 117 #[iv p0, iv p1, iv p2, iv p3, iv p4, rv b2, iv (3 : Int32), rv b79, rv bo90] [(.ref b79)])) rfl rfl (hb hby at_117) _ ?_
      rw [len_of S92 M92]
      show Steps p.tables e below (T90.setTop (mkF m 118 #[iv p0, iv p1, iv p2, iv p3, iv p4, rv b2, iv (3 : Int32), rv b79, rv bo90] [(.int (3 : Int32))])) _
      refine XS.iload X90.here hx rfl (hb hby at_118) rfl ?_
      show Steps p.tables e below (T90.setTop (mkF m 120 #[iv p0, iv p1, iv p2, iv p3, iv p4, rv b2, iv (3 : Int32), rv b79, rv bo90] [(.int (3 : Int32)), (.int (3 : Int32))])) _
      refine XS.icmpYes X90.here hx rfl (pc0 := 120) (pc' := 125) rfl (hb hby at_120) rfl (teq (by decide)).1 (by decide) (by decide) ?_
      show Steps p.tables e below (T90.setTop (mkF m 125 #[iv p0, iv p1, iv p2, iv p3, iv p4, rv b2, iv (3 : Int32), rv b79, rv bo90] [])) _
      refine XS.aload X90.here hx rfl (hb hby at_125) rfl rfl ?_
      show Steps p.tables e below (T90.setTop (mkF m 127 #[iv p0, iv p1, iv p2, iv p3, iv p4, rv b2, iv (3 : Int32), rv b79, rv bo90] [(.ref bo90)])) _
      refine XS.aload X90.here hx rfl (hb hby at_127) rfl rfl ?_
      show Steps p.tables e below (T90.setTop (mkF m 129 #[iv p0, iv p1, iv p2, iv p3, iv p4, rv b2, iv (3 : Int32), rv b79, rv bo90] [(.ref b79), (.ref bo90)])) _
      refine XS.iconst X90.here hx rfl (hb hby at_129) ?_
      show Steps p.tables e below (T90.setTop (mkF m 130 #[iv p0, iv p1, iv p2, iv p3, iv p4, rv b2, iv (3 : Int32), rv b79, rv bo90] [(.int (0 : Int32)), (.ref b79), (.ref bo90)])) _
      refine XS.aload X90.here hx rfl (hb hby at_130) rfl rfl ?_
      show Steps p.tables e below (T90.setTop (mkF m 132 #[iv p0, iv p1, iv p2, iv p3, iv p4, rv b2, iv (3 : Int32), rv b79, rv bo90] [(.ref b2), (.int (0 : Int32)), (.ref b79), (.ref bo90)])) _
      refine XS.iconst X90.here hx rfl (hb hby at_132) ?_
      show Steps p.tables e below (T90.setTop (mkF m 133 #[iv p0, iv p1, iv p2, iv p3, iv p4, rv b2, iv (3 : Int32), rv b79, rv bo90] [(.int (0 : Int32)), (.ref b2), (.int (0 : Int32)), (.ref b79), (.ref bo90)])) _
      refine X90.baloadBytes hx (j := (0 : Int32)) (v := (.int (p0.toInt8.toInt32))) Ar93.1 (State.isArrayOf_alike hZ.alike Ar93.2.1) Ar93.2.2 hin93 hat93 (g := (mkF m 133 #[iv p0, iv p1, iv p2, iv p3, iv p4, rv b2, iv (3 : Int32), rv b79, rv bo90] [(.int (0 : Int32)), (.ref b2), (.int (0 : Int32)), (.ref b79), (.ref bo90)])) rfl rfl (hb hby at_133) _ ?_
      exact kt
    obtain ⟨_, _, ⟨T95, L95, k95, n95⟩, -, X95, ⟨Lc95, hQ95, l95, y95, z95⟩, st95⟩ := Jvm.LawKit.callS X90 hx (y := (⟨"com/example/ereikoussa/ereikoussa/dns/DnsNameLowerCasePinLaw", "at", "([B[BIB)Z"⟩ : MethodName)) hown (mvT hZ (hw _ (List.mem_of_getElem? (i := 14) rfl))) (mvT hZ (hw _ (List.mem_of_getElem? (i := 15) rfl))) (mvT hZ (hw _ (List.mem_of_getElem? (i := 16) rfl))) (mvT hZ (hw _ (List.mem_of_getElem? (i := 17) rfl))) (by decide) (backOf (W := 0) (rm2 l Z a0 hw [] bo90 b79 (0 : Int32) (p0.toInt8.toInt32) k79 k79 (3 : Int32) [(.int (own_lowb (p0.toInt8.toInt32))), (.int (own_lowb (p1.toInt8.toInt32))), (.int (own_lowb (p2.toInt8.toInt32)))] [(.int (p0.toInt8.toInt32)), (.int (p1.toInt8.toInt32)), (.int (p2.toInt8.toInt32))] (.int (0 : Int32)) (.int (0 : Int32)) T90.heap n0 (Nat.le_trans Z0 K90.1) Vp90 (V88.keep Kc90 nin0) (by decide) (fun _ => ⟨congrArg Value.int (own_low_eq _ (own_nb _)).symm, rfl⟩)) hZ (hw _ (List.mem_of_getElem? (i := 17) rfl)) (hw _ (List.mem_of_getElem? (i := 16) rfl)) (by decide) (by decide)) (g := (mkF m 134 #[iv p0, iv p1, iv p2, iv p3, iv p4, rv b2, iv (3 : Int32), rv b79, rv bo90] [(.int (p0.toInt8.toInt32)), (.int (0 : Int32)), (.ref b79), (.ref bo90)])) rfl (by rw [hml]; rfl) (argsL := [(.ref bo90), (.ref b79), (.int (0 : Int32)), (.int (p0.toInt8.toInt32))]) (rest := []) (lenOf pd4 rfl) rfl (by show 2 * 0 + _ ≤ _; exact Nat.le_of_eq rfl) (hb hby at_134) (fun _ _ => ⟨rfl, rfl, (by decide : 3 + 0 ≤ _), (by decide : 11 + 0 ≤ _)⟩)
    dsimp only [Pt.U, Pt.locs, Pt.cells, Pt.slots] at X95 l95 y95 z95 st95 hQ95
    subst l95 y95 z95
    obtain ⟨rfl, N95q, hh95⟩ := hQ95
    have N95 := Fr.app N90 N95q
    obtain ⟨cl96, Ar96, q96, S96, M96, H96, G96⟩ := id (((((V10.ext E79).other W82 (Nat.ne_of_lt (Nat.lt_of_lt_of_le V10.lt (Nat.le_of_eq g79.symm)))).other W85 (Nat.ne_of_lt (Nat.lt_of_lt_of_le V10.lt (Nat.le_of_eq g79.symm)))).other W88 (Nat.ne_of_lt (Nat.lt_of_lt_of_le V10.lt (Nat.le_of_eq g79.symm)))).keep Kc90 nin0)
    have hin96 : ¬ ((1 : Int32) < 0 ∨ cl96.slots.size ≤ ((1 : Int32)).toNatClampNeg) := inb_of S96 ⟨by decide, by decide⟩
    have hat96 : cl96.slots[((1 : Int32)).toNatClampNeg]? = some (.int (p1.toInt8.toInt32)) := H96.at hin96 rfl
    have pre97 : ∀ t, Steps p.tables e below (T95.setTop (mkF m 149 #[iv p0, iv p1, iv p2, iv p3, iv p4, rv b2, iv (3 : Int32), rv b79, rv bo90] [(.int (p1.toInt8.toInt32)), (.int (1 : Int32)), (.ref b79), (.ref bo90)])) t → Steps p.tables e below (s₁.setTop (entryFrame m #[(.int p0), (.int p1), (.int p2), (.int p3), (.int p4)] maxLocals)) t := by
      intro t kt
      refine pre94 _ ?_
      show Steps p.tables e below (T90.setTop (mkF m 134 #[iv p0, iv p1, iv p2, iv p3, iv p4, rv b2, iv (3 : Int32), rv b79, rv bo90] [(.int (p0.toInt8.toInt32)), (.int (0 : Int32)), (.ref b79), (.ref bo90)])) _
      refine st95 _ ?_
      show Steps p.tables e below (T95.setTop (mkF m 137 #[iv p0, iv p1, iv p2, iv p3, iv p4, rv b2, iv (3 : Int32), rv b79, rv bo90] [(.int (1 : Int32))])) _
      refine XS.ifNo X95.here hx rfl (hb hby at_137) rfl ((if0 _ _).trans (feq (by decide)).1) ?_
      show Steps p.tables e below (T95.setTop (mkF m 140 #[iv p0, iv p1, iv p2, iv p3, iv p4, rv b2, iv (3 : Int32), rv b79, rv bo90] [])) _
      refine XS.aload X95.here hx rfl (hb hby at_140) rfl rfl ?_
      show Steps p.tables e below (T95.setTop (mkF m 142 #[iv p0, iv p1, iv p2, iv p3, iv p4, rv b2, iv (3 : Int32), rv b79, rv bo90] [(.ref bo90)])) _
      refine XS.aload X95.here hx rfl (hb hby at_142) rfl rfl ?_
      show Steps p.tables e below (T95.setTop (mkF m 144 #[iv p0, iv p1, iv p2, iv p3, iv p4, rv b2, iv (3 : Int32), rv b79, rv bo90] [(.ref b79), (.ref bo90)])) _
      refine XS.iconst X95.here hx rfl (hb hby at_144) ?_
      show Steps p.tables e below (T95.setTop (mkF m 145 #[iv p0, iv p1, iv p2, iv p3, iv p4, rv b2, iv (3 : Int32), rv b79, rv bo90] [(.int (1 : Int32)), (.ref b79), (.ref bo90)])) _
      refine XS.aload X95.here hx rfl (hb hby at_145) rfl rfl ?_
      show Steps p.tables e below (T95.setTop (mkF m 147 #[iv p0, iv p1, iv p2, iv p3, iv p4, rv b2, iv (3 : Int32), rv b79, rv bo90] [(.ref b2), (.int (1 : Int32)), (.ref b79), (.ref bo90)])) _
      refine XS.iconst X95.here hx rfl (hb hby at_147) ?_
      show Steps p.tables e below (T95.setTop (mkF m 148 #[iv p0, iv p1, iv p2, iv p3, iv p4, rv b2, iv (3 : Int32), rv b79, rv bo90] [(.int (1 : Int32)), (.ref b2), (.int (1 : Int32)), (.ref b79), (.ref bo90)])) _
      refine X95.baloadBytes hx (j := (1 : Int32)) (v := (.int (p1.toInt8.toInt32))) (by rw [hh95]; exact Ar96.1) (State.isArrayOf_alike hZ.alike Ar96.2.1) Ar96.2.2 hin96 hat96 (g := (mkF m 148 #[iv p0, iv p1, iv p2, iv p3, iv p4, rv b2, iv (3 : Int32), rv b79, rv bo90] [(.int (1 : Int32)), (.ref b2), (.int (1 : Int32)), (.ref b79), (.ref bo90)])) rfl rfl (hb hby at_148) _ ?_
      exact kt
    obtain ⟨_, _, ⟨T98, L98, k98, n98⟩, -, X98, ⟨Lc98, hQ98, l98, y98, z98⟩, st98⟩ := Jvm.LawKit.callS X95 hx (y := (⟨"com/example/ereikoussa/ereikoussa/dns/DnsNameLowerCasePinLaw", "at", "([B[BIB)Z"⟩ : MethodName)) hown (mvT hZ (hw _ (List.mem_of_getElem? (i := 14) rfl))) (mvT hZ (hw _ (List.mem_of_getElem? (i := 15) rfl))) (mvT hZ (hw _ (List.mem_of_getElem? (i := 16) rfl))) (mvT hZ (hw _ (List.mem_of_getElem? (i := 17) rfl))) (by decide) (backOf (W := 0) (rm2 l Z a0 hw [] bo90 b79 (1 : Int32) (p1.toInt8.toInt32) k79 k79 (3 : Int32) [(.int (own_lowb (p0.toInt8.toInt32))), (.int (own_lowb (p1.toInt8.toInt32))), (.int (own_lowb (p2.toInt8.toInt32)))] [(.int (p0.toInt8.toInt32)), (.int (p1.toInt8.toInt32)), (.int (p2.toInt8.toInt32))] (.int (0 : Int32)) (.int (0 : Int32)) T90.heap n0 (Nat.le_trans Z0 K90.1) Vp90 (V88.keep Kc90 nin0) (by decide) (fun _ => ⟨congrArg Value.int (own_low_eq _ (own_nb _)).symm, rfl⟩)) hZ (hw _ (List.mem_of_getElem? (i := 17) rfl)) (hw _ (List.mem_of_getElem? (i := 16) rfl)) (by decide) (by decide)) (g := (mkF m 149 #[iv p0, iv p1, iv p2, iv p3, iv p4, rv b2, iv (3 : Int32), rv b79, rv bo90] [(.int (p1.toInt8.toInt32)), (.int (1 : Int32)), (.ref b79), (.ref bo90)])) rfl (by rw [hml]; rfl) (argsL := [(.ref bo90), (.ref b79), (.int (1 : Int32)), (.int (p1.toInt8.toInt32))]) (rest := []) (lenOf pd4 rfl) rfl (by show 2 * 0 + _ ≤ _; exact Nat.le_of_eq rfl) (hb hby at_149) (fun _ _ => ⟨rfl, hh95, (by decide : 3 + 0 ≤ _), (by decide : 11 + 0 ≤ _)⟩)
    dsimp only [Pt.U, Pt.locs, Pt.cells, Pt.slots] at X98 l98 y98 z98 st98 hQ98
    subst l98 y98 z98
    obtain ⟨rfl, N98q, hh98⟩ := hQ98
    have N98 := Fr.app N95 N98q
    obtain ⟨cl99, Ar99, q99, S99, M99, H99, G99⟩ := id (((((V10.ext E79).other W82 (Nat.ne_of_lt (Nat.lt_of_lt_of_le V10.lt (Nat.le_of_eq g79.symm)))).other W85 (Nat.ne_of_lt (Nat.lt_of_lt_of_le V10.lt (Nat.le_of_eq g79.symm)))).other W88 (Nat.ne_of_lt (Nat.lt_of_lt_of_le V10.lt (Nat.le_of_eq g79.symm)))).keep Kc90 nin0)
    have hin99 : ¬ ((2 : Int32) < 0 ∨ cl99.slots.size ≤ ((2 : Int32)).toNatClampNeg) := inb_of S99 ⟨by decide, by decide⟩
    have hat99 : cl99.slots[((2 : Int32)).toNatClampNeg]? = some (.int (p2.toInt8.toInt32)) := H99.at hin99 rfl
    have pre100 : ∀ t, Steps p.tables e below (T98.setTop (mkF m 164 #[iv p0, iv p1, iv p2, iv p3, iv p4, rv b2, iv (3 : Int32), rv b79, rv bo90] [(.int (p2.toInt8.toInt32)), (.int (2 : Int32)), (.ref b79), (.ref bo90)])) t → Steps p.tables e below (s₁.setTop (entryFrame m #[(.int p0), (.int p1), (.int p2), (.int p3), (.int p4)] maxLocals)) t := by
      intro t kt
      refine pre97 _ ?_
      show Steps p.tables e below (T95.setTop (mkF m 149 #[iv p0, iv p1, iv p2, iv p3, iv p4, rv b2, iv (3 : Int32), rv b79, rv bo90] [(.int (p1.toInt8.toInt32)), (.int (1 : Int32)), (.ref b79), (.ref bo90)])) _
      refine st98 _ ?_
      show Steps p.tables e below (T98.setTop (mkF m 152 #[iv p0, iv p1, iv p2, iv p3, iv p4, rv b2, iv (3 : Int32), rv b79, rv bo90] [(.int (1 : Int32))])) _
      refine XS.ifNo X98.here hx rfl (hb hby at_152) rfl ((if0 _ _).trans (feq (by decide)).1) ?_
      show Steps p.tables e below (T98.setTop (mkF m 155 #[iv p0, iv p1, iv p2, iv p3, iv p4, rv b2, iv (3 : Int32), rv b79, rv bo90] [])) _
      refine XS.aload X98.here hx rfl (hb hby at_155) rfl rfl ?_
      show Steps p.tables e below (T98.setTop (mkF m 157 #[iv p0, iv p1, iv p2, iv p3, iv p4, rv b2, iv (3 : Int32), rv b79, rv bo90] [(.ref bo90)])) _
      refine XS.aload X98.here hx rfl (hb hby at_157) rfl rfl ?_
      show Steps p.tables e below (T98.setTop (mkF m 159 #[iv p0, iv p1, iv p2, iv p3, iv p4, rv b2, iv (3 : Int32), rv b79, rv bo90] [(.ref b79), (.ref bo90)])) _
      refine XS.iconst X98.here hx rfl (hb hby at_159) ?_
      show Steps p.tables e below (T98.setTop (mkF m 160 #[iv p0, iv p1, iv p2, iv p3, iv p4, rv b2, iv (3 : Int32), rv b79, rv bo90] [(.int (2 : Int32)), (.ref b79), (.ref bo90)])) _
      refine XS.aload X98.here hx rfl (hb hby at_160) rfl rfl ?_
      show Steps p.tables e below (T98.setTop (mkF m 162 #[iv p0, iv p1, iv p2, iv p3, iv p4, rv b2, iv (3 : Int32), rv b79, rv bo90] [(.ref b2), (.int (2 : Int32)), (.ref b79), (.ref bo90)])) _
      refine XS.iconst X98.here hx rfl (hb hby at_162) ?_
      show Steps p.tables e below (T98.setTop (mkF m 163 #[iv p0, iv p1, iv p2, iv p3, iv p4, rv b2, iv (3 : Int32), rv b79, rv bo90] [(.int (2 : Int32)), (.ref b2), (.int (2 : Int32)), (.ref b79), (.ref bo90)])) _
      refine X98.baloadBytes hx (j := (2 : Int32)) (v := (.int (p2.toInt8.toInt32))) (by rw [hh98]; exact Ar99.1) (State.isArrayOf_alike hZ.alike Ar99.2.1) Ar99.2.2 hin99 hat99 (g := (mkF m 163 #[iv p0, iv p1, iv p2, iv p3, iv p4, rv b2, iv (3 : Int32), rv b79, rv bo90] [(.int (2 : Int32)), (.ref b2), (.int (2 : Int32)), (.ref b79), (.ref bo90)])) rfl rfl (hb hby at_163) _ ?_
      exact kt
    obtain ⟨_, _, ⟨T101, L101, k101, n101⟩, -, X101, ⟨Lc101, hQ101, l101, y101, z101⟩, st101⟩ := Jvm.LawKit.callS X98 hx (y := (⟨"com/example/ereikoussa/ereikoussa/dns/DnsNameLowerCasePinLaw", "at", "([B[BIB)Z"⟩ : MethodName)) hown (mvT hZ (hw _ (List.mem_of_getElem? (i := 14) rfl))) (mvT hZ (hw _ (List.mem_of_getElem? (i := 15) rfl))) (mvT hZ (hw _ (List.mem_of_getElem? (i := 16) rfl))) (mvT hZ (hw _ (List.mem_of_getElem? (i := 17) rfl))) (by decide) (backOf (W := 0) (rm2 l Z a0 hw [] bo90 b79 (2 : Int32) (p2.toInt8.toInt32) k79 k79 (3 : Int32) [(.int (own_lowb (p0.toInt8.toInt32))), (.int (own_lowb (p1.toInt8.toInt32))), (.int (own_lowb (p2.toInt8.toInt32)))] [(.int (p0.toInt8.toInt32)), (.int (p1.toInt8.toInt32)), (.int (p2.toInt8.toInt32))] (.int (0 : Int32)) (.int (0 : Int32)) T90.heap n0 (Nat.le_trans Z0 K90.1) Vp90 (V88.keep Kc90 nin0) (by decide) (fun _ => ⟨congrArg Value.int (own_low_eq _ (own_nb _)).symm, rfl⟩)) hZ (hw _ (List.mem_of_getElem? (i := 17) rfl)) (hw _ (List.mem_of_getElem? (i := 16) rfl)) (by decide) (by decide)) (g := (mkF m 164 #[iv p0, iv p1, iv p2, iv p3, iv p4, rv b2, iv (3 : Int32), rv b79, rv bo90] [(.int (p2.toInt8.toInt32)), (.int (2 : Int32)), (.ref b79), (.ref bo90)])) rfl (by rw [hml]; rfl) (argsL := [(.ref bo90), (.ref b79), (.int (2 : Int32)), (.int (p2.toInt8.toInt32))]) (rest := []) (lenOf pd4 rfl) rfl (by show 2 * 0 + _ ≤ _; exact Nat.le_of_eq rfl) (hb hby at_164) (fun _ _ => ⟨rfl, hh98, (by decide : 3 + 0 ≤ _), (by decide : 11 + 0 ≤ _)⟩)
    dsimp only [Pt.U, Pt.locs, Pt.cells, Pt.slots] at X101 l101 y101 z101 st101 hQ101
    subst l101 y101 z101
    obtain ⟨rfl, N101q, hh101⟩ := hQ101
    have N101 := Fr.app N98 N101q
    obtain ⟨cl102, Ar102, q102, S102, M102, H102, G102⟩ := id (((((V10.ext E79).other W82 (Nat.ne_of_lt (Nat.lt_of_lt_of_le V10.lt (Nat.le_of_eq g79.symm)))).other W85 (Nat.ne_of_lt (Nat.lt_of_lt_of_le V10.lt (Nat.le_of_eq g79.symm)))).other W88 (Nat.ne_of_lt (Nat.lt_of_lt_of_le V10.lt (Nat.le_of_eq g79.symm)))).keep Kc90 nin0)
    have hin102 : ¬ ((3 : Int32) < 0 ∨ cl102.slots.size ≤ ((3 : Int32)).toNatClampNeg) := inb_of S102 ⟨by decide, by decide⟩
    have hat102 : cl102.slots[((3 : Int32)).toNatClampNeg]? = some (.int (p3.toInt8.toInt32)) := H102.at hin102 rfl
    have pre103 : ∀ t, Steps p.tables e below (T101.setTop (mkF m 179 #[iv p0, iv p1, iv p2, iv p3, iv p4, rv b2, iv (3 : Int32), rv b79, rv bo90] [(.int (p3.toInt8.toInt32)), (.int (3 : Int32)), (.ref b79), (.ref bo90)])) t → Steps p.tables e below (s₁.setTop (entryFrame m #[(.int p0), (.int p1), (.int p2), (.int p3), (.int p4)] maxLocals)) t := by
      intro t kt
      refine pre100 _ ?_
      show Steps p.tables e below (T98.setTop (mkF m 164 #[iv p0, iv p1, iv p2, iv p3, iv p4, rv b2, iv (3 : Int32), rv b79, rv bo90] [(.int (p2.toInt8.toInt32)), (.int (2 : Int32)), (.ref b79), (.ref bo90)])) _
      refine st101 _ ?_
      show Steps p.tables e below (T101.setTop (mkF m 167 #[iv p0, iv p1, iv p2, iv p3, iv p4, rv b2, iv (3 : Int32), rv b79, rv bo90] [(.int (1 : Int32))])) _
      refine XS.ifNo X101.here hx rfl (hb hby at_167) rfl ((if0 _ _).trans (feq (by decide)).1) ?_
      show Steps p.tables e below (T101.setTop (mkF m 170 #[iv p0, iv p1, iv p2, iv p3, iv p4, rv b2, iv (3 : Int32), rv b79, rv bo90] [])) _
      refine XS.aload X101.here hx rfl (hb hby at_170) rfl rfl ?_
      show Steps p.tables e below (T101.setTop (mkF m 172 #[iv p0, iv p1, iv p2, iv p3, iv p4, rv b2, iv (3 : Int32), rv b79, rv bo90] [(.ref bo90)])) _
      refine XS.aload X101.here hx rfl (hb hby at_172) rfl rfl ?_
      show Steps p.tables e below (T101.setTop (mkF m 174 #[iv p0, iv p1, iv p2, iv p3, iv p4, rv b2, iv (3 : Int32), rv b79, rv bo90] [(.ref b79), (.ref bo90)])) _
      refine XS.iconst X101.here hx rfl (hb hby at_174) ?_
      show Steps p.tables e below (T101.setTop (mkF m 175 #[iv p0, iv p1, iv p2, iv p3, iv p4, rv b2, iv (3 : Int32), rv b79, rv bo90] [(.int (3 : Int32)), (.ref b79), (.ref bo90)])) _
      refine XS.aload X101.here hx rfl (hb hby at_175) rfl rfl ?_
      show Steps p.tables e below (T101.setTop (mkF m 177 #[iv p0, iv p1, iv p2, iv p3, iv p4, rv b2, iv (3 : Int32), rv b79, rv bo90] [(.ref b2), (.int (3 : Int32)), (.ref b79), (.ref bo90)])) _
      refine XS.iconst X101.here hx rfl (hb hby at_177) ?_
      show Steps p.tables e below (T101.setTop (mkF m 178 #[iv p0, iv p1, iv p2, iv p3, iv p4, rv b2, iv (3 : Int32), rv b79, rv bo90] [(.int (3 : Int32)), (.ref b2), (.int (3 : Int32)), (.ref b79), (.ref bo90)])) _
      refine X101.baloadBytes hx (j := (3 : Int32)) (v := (.int (p3.toInt8.toInt32))) (by rw [hh101]; exact Ar102.1) (State.isArrayOf_alike hZ.alike Ar102.2.1) Ar102.2.2 hin102 hat102 (g := (mkF m 178 #[iv p0, iv p1, iv p2, iv p3, iv p4, rv b2, iv (3 : Int32), rv b79, rv bo90] [(.int (3 : Int32)), (.ref b2), (.int (3 : Int32)), (.ref b79), (.ref bo90)])) rfl rfl (hb hby at_178) _ ?_
      exact kt
    obtain ⟨_, _, ⟨T104, L104, k104, n104⟩, -, X104, ⟨Lc104, hQ104, l104, y104, z104⟩, st104⟩ := Jvm.LawKit.callS X101 hx (y := (⟨"com/example/ereikoussa/ereikoussa/dns/DnsNameLowerCasePinLaw", "at", "([B[BIB)Z"⟩ : MethodName)) hown (mvT hZ (hw _ (List.mem_of_getElem? (i := 14) rfl))) (mvT hZ (hw _ (List.mem_of_getElem? (i := 15) rfl))) (mvT hZ (hw _ (List.mem_of_getElem? (i := 16) rfl))) (mvT hZ (hw _ (List.mem_of_getElem? (i := 17) rfl))) (by decide) (backOf (W := 0) (rm2 l Z a0 hw [] bo90 b79 (3 : Int32) (p3.toInt8.toInt32) k79 k79 (3 : Int32) [(.int (own_lowb (p0.toInt8.toInt32))), (.int (own_lowb (p1.toInt8.toInt32))), (.int (own_lowb (p2.toInt8.toInt32)))] [(.int (p0.toInt8.toInt32)), (.int (p1.toInt8.toInt32)), (.int (p2.toInt8.toInt32))] (.int (0 : Int32)) (.int (0 : Int32)) T90.heap n0 (Nat.le_trans Z0 K90.1) Vp90 (V88.keep Kc90 nin0) (by decide) (fun q => absurd q (by decide))) hZ (hw _ (List.mem_of_getElem? (i := 17) rfl)) (hw _ (List.mem_of_getElem? (i := 16) rfl)) (by decide) (by decide)) (g := (mkF m 179 #[iv p0, iv p1, iv p2, iv p3, iv p4, rv b2, iv (3 : Int32), rv b79, rv bo90] [(.int (p3.toInt8.toInt32)), (.int (3 : Int32)), (.ref b79), (.ref bo90)])) rfl (by rw [hml]; rfl) (argsL := [(.ref bo90), (.ref b79), (.int (3 : Int32)), (.int (p3.toInt8.toInt32))]) (rest := []) (lenOf pd4 rfl) rfl (by show 2 * 0 + _ ≤ _; exact Nat.le_of_eq rfl) (hb hby at_179) (fun _ _ => ⟨rfl, hh101, (by decide : 3 + 0 ≤ _), (by decide : 11 + 0 ≤ _)⟩)
    dsimp only [Pt.U, Pt.locs, Pt.cells, Pt.slots] at X104 l104 y104 z104 st104 hQ104
    subst l104 y104 z104
    obtain ⟨rfl, N104q, hh104⟩ := hQ104
    have N104 := Fr.app N101 N104q
    have pre105 : ∀ t, Steps p.tables e below (T104.setTop (mkF m 190 #[iv p0, iv p1, iv p2, iv p3, iv p4, rv b2, iv (3 : Int32), rv b79, rv bo90] [(.int (1 : Int32))])) t → Steps p.tables e below (s₁.setTop (entryFrame m #[(.int p0), (.int p1), (.int p2), (.int p3), (.int p4)] maxLocals)) t := by
      intro t kt
      refine pre103 _ ?_
      show Steps p.tables e below (T101.setTop (mkF m 179 #[iv p0, iv p1, iv p2, iv p3, iv p4, rv b2, iv (3 : Int32), rv b79, rv bo90] [(.int (p3.toInt8.toInt32)), (.int (3 : Int32)), (.ref b79), (.ref bo90)])) _
      refine st104 _ ?_
      show Steps p.tables e below (T104.setTop (mkF m 182 #[iv p0, iv p1, iv p2, iv p3, iv p4, rv b2, iv (3 : Int32), rv b79, rv bo90] [(.int (1 : Int32))])) _
      refine XS.ifNo X104.here hx rfl (hb hby at_182) rfl ((if0 _ _).trans (feq (by decide)).1) ?_
      show Steps p.tables e below (T104.setTop (mkF m 185 #[iv p0, iv p1, iv p2, iv p3, iv p4, rv b2, iv (3 : Int32), rv b79, rv bo90] [])) _
      refine XS.iconst X104.here hx rfl (hb hby at_185) ?_
      show Steps p.tables e below (T104.setTop (mkF m 186 #[iv p0, iv p1, iv p2, iv p3, iv p4, rv b2, iv (3 : Int32), rv b79, rv bo90] [(.int (1 : Int32))])) _
      refine XS.goto X104.here hx rfl (pc0 := 186) (pc' := 190) rfl (hb hby at_186) (by decide) (by decide) ?_
      exact kt
    obtain ⟨fs, hr, hrun, hended, hW, hsame⟩ := X104.leave (v := some (.int (1 : Int32))) (fun h => by rw [Bd.returns] at h; cases h)
    refine ⟨_, _, pre105 _ ?_, hrun, hended, _, _, rfl, ?_, ⟨_, rfl⟩, hW, hsame.mono (by decide) (by decide)⟩
    · show Steps p.tables e below (T104.setTop (mkF m 190 #[iv p0, iv p1, iv p2, iv p3, iv p4, rv b2, iv (3 : Int32), rv b79, rv bo90] [(.int (1 : Int32))])) _
      exact retN X104 hx (t := .boolean) Bd.returns (by simp) (hb hby at_190) hr
    · show Q0 Z p0 p1 p2 p3 p4 h0 n0 _ T104.heap _
      rw [hh104]
      exact ⟨rfl, N104⟩
  · have pre106 : ∀ t, Steps p.tables e below (T10.setTop (mkF m 36 #[iv p0, iv p1, iv p2, iv p3, iv p4, rv b2, iv (4 : Int32), .unset, .unset] [(.int (4 : Int32))])) t → Steps p.tables e below (s₁.setTop (entryFrame m #[(.int p0), (.int p1), (.int p2), (.int p3), (.int p4)] maxLocals)) t := by
      intro t kt
      refine pre11 _ ?_
      show Steps p.tables e below (T10.setTop (mkF m 34 #[iv p0, iv p1, iv p2, iv p3, iv p4, rv b2, iv ((p4 &&& (7 : Int32)) % (5 : Int32)), .unset, .unset] [])) _
      rw [h5]
      show Steps p.tables e below (T10.setTop (mkF m 34 #[iv p0, iv p1, iv p2, iv p3, iv p4, rv b2, iv (4 : Int32), .unset, .unset] [])) _
      refine XS.iload X10.here hx rfl (hb hby at_34) rfl ?_
      exact kt
    obtain ⟨T107, h107, k107, X107, e107, E107, A107, Ex107, st107⟩ := newPE X10 hx hZ (hw _ (List.mem_of_getElem? (i := 0) rfl)) e10 (g := (mkF m 36 #[iv p0, iv p1, iv p2, iv p3, iv p4, rv b2, iv (4 : Int32), .unset, .unset] [(.int (4 : Int32))])) rfl (hb hby at_36) rfl (by decide) (cap := 4) (by decide) (by decide) (by decide) (by decide) (ad := "[B") rfl
    obtain ⟨b107, g107⟩ : ∃ z, z = h10.size := ⟨_, rfl⟩
    rw [← g107] at A107 Ex107 st107
    have g_b107 : n0 ≤ b107 := Nat.le_trans (Nat.le_trans Z0 K10.1) (Nat.le_of_eq g107.symm)
    have sz_b107 : h0.size ≤ b107 := Nat.le_trans K10.1 (Nat.le_of_eq g107.symm)
    have V_b107 : Arv Z h107 b107 k107 .byte (4 : Int32) [(.int (0 : Int32)), (.int (0 : Int32)), (.int (0 : Int32)), (.int (0 : Int32))] (.int (0 : Int32)) := (Arv.new A107 (by decide)).pad (pad_rep [] (.int (0 : Int32)) 4)
    have K107 : Keep h0 h107 [] := K10.ext E107
    obtain ⟨cl108, Ar108, q108, S108, M108, H108, G108⟩ := id (V10.ext E107)
    have hin108 : ¬ ((0 : Int32) < 0 ∨ cl108.slots.size ≤ ((0 : Int32)).toNatClampNeg) := inb_of S108 ⟨by decide, by decide⟩
    have hat108 : cl108.slots[((0 : Int32)).toNatClampNeg]? = some (.int (p0.toInt8.toInt32)) := H108.at hin108 rfl
    have pre109 : ∀ t, Steps p.tables e below (T107.setTop (mkF m 52 #[iv p0, iv p1, iv p2, iv p3, iv p4, rv b2, iv (4 : Int32), rv b107, .unset] [(.int (p0.toInt8.toInt32)), (.int (0 : Int32)), (.ref b107)])) t → Steps p.tables e below (s₁.setTop (entryFrame m #[(.int p0), (.int p1), (.int p2), (.int p3), (.int p4)] maxLocals)) t := by
      intro t kt
      refine pre106 _ ?_
      show Steps p.tables e below (T10.setTop (mkF m 36 #[iv p0, iv p1, iv p2, iv p3, iv p4, rv b2, iv (4 : Int32), .unset, .unset] [(.int (4 : Int32))])) _
      refine st107 _ ?_
      show Steps p.tables e below (T107.setTop (mkF m 38 #[iv p0, iv p1, iv p2, iv p3, iv p4, rv b2, iv (4 : Int32), .unset, .unset] [(.ref b107)])) _
      refine XS.astore X107.here hx rfl (hb hby at_38) rfl rfl (l' := #[iv p0, iv p1, iv p2, iv p3, iv p4, rv b2, iv (4 : Int32), rv b107, .unset]) rfl ?_
      show Steps p.tables e below (T107.setTop (mkF m 40 #[iv p0, iv p1, iv p2, iv p3, iv p4, rv b2, iv (4 : Int32), rv b107, .unset] [])) _
      refine XS.iload X107.here hx rfl (hb hby at_40) rfl ?_
      show Steps p.tables e below (T107.setTop (mkF m 42 #[iv p0, iv p1, iv p2, iv p3, iv p4, rv b2, iv (4 : Int32), rv b107, .unset] [(.int (4 : Int32))])) _
      refine XS.ifNo X107.here hx rfl (hb hby at_42) rfl ((if0 _ _).trans (tlt (by decide)).2.2.2) ?_
      show Steps p.tables e below (T107.setTop (mkF m 45 #[iv p0, iv p1, iv p2, iv p3, iv p4, rv b2, iv (4 : Int32), rv b107, .unset] [])) _
      refine XS.aload X107.here hx rfl (hb hby at_45) rfl rfl ?_
      show Steps p.tables e below (T107.setTop (mkF m 47 #[iv p0, iv p1, iv p2, iv p3, iv p4, rv b2, iv (4 : Int32), rv b107, .unset] [(.ref b107)])) _
      refine XS.iconst X107.here hx rfl (hb hby at_47) ?_
      show Steps p.tables e below (T107.setTop (mkF m 48 #[iv p0, iv p1, iv p2, iv p3, iv p4, rv b2, iv (4 : Int32), rv b107, .unset] [(.int (0 : Int32)), (.ref b107)])) _
      refine XS.aload X107.here hx rfl (hb hby at_48) rfl rfl ?_
      show Steps p.tables e below (T107.setTop (mkF m 50 #[iv p0, iv p1, iv p2, iv p3, iv p4, rv b2, iv (4 : Int32), rv b107, .unset] [(.ref b2), (.int (0 : Int32)), (.ref b107)])) _
      refine XS.iconst X107.here hx rfl (hb hby at_50) ?_
      show Steps p.tables e below (T107.setTop (mkF m 51 #[iv p0, iv p1, iv p2, iv p3, iv p4, rv b2, iv (4 : Int32), rv b107, .unset] [(.int (0 : Int32)), (.ref b2), (.int (0 : Int32)), (.ref b107)])) _
      refine X107.baloadBytes hx (j := (0 : Int32)) (v := (.int (p0.toInt8.toInt32))) (by rw [e107]; exact Ar108.1) (State.isArrayOf_alike hZ.alike Ar108.2.1) Ar108.2.2 hin108 hat108 (g := (mkF m 51 #[iv p0, iv p1, iv p2, iv p3, iv p4, rv b2, iv (4 : Int32), rv b107, .unset] [(.int (0 : Int32)), (.ref b2), (.int (0 : Int32)), (.ref b107)])) rfl rfl (hb hby at_51) _ ?_
      exact kt
    obtain ⟨cl110, Ar110, q110, S110, M110, H110, G110⟩ := id V_b107
    have hin110 : ¬ ((0 : Int32) < 0 ∨ cl110.slots.size ≤ ((0 : Int32)).toNatClampNeg) := inb_of S110 ⟨by decide, by decide⟩
    obtain ⟨T110, h110, X110, e110, W110, st110⟩ := stB X107 hx hZ e107 Ar110 (j := (0 : Int32)) hin110 (g := (mkF m 52 #[iv p0, iv p1, iv p2, iv p3, iv p4, rv b2, iv (4 : Int32), rv b107, .unset] [(.int (p0.toInt8.toInt32)), (.int (0 : Int32)), (.ref b107)])) rfl rfl (hb hby at_52)
    have nn110 : nar .byte (p0.toInt8.toInt32) = (p0.toInt8.toInt32) := (own_nb _)
    rw [nn110] at W110
    have V110 : Arv Z h110 b107 k107 .byte (4 : Int32) [(.int (p0.toInt8.toInt32)), (.int (0 : Int32)), (.int (0 : Int32)), (.int (0 : Int32))] (.int (0 : Int32)) := Arv.set Ar110 q110 S110 M110 H110 G110 (own_fb nn110) W110 0 rfl (Nat.le_of_ble_eq_true rfl)
    have K110 : Keep h0 h110 [] := K107.wr W110 (Or.inr sz_b107)
    have N110 := Fr.snoc X110 N10 g_b107
    obtain ⟨cl111, Ar111, q111, S111, M111, H111, G111⟩ := id ((V10.ext E107).other W110 (Nat.ne_of_lt (Nat.lt_of_lt_of_le V10.lt (Nat.le_of_eq g107.symm))))
    have hin111 : ¬ ((1 : Int32) < 0 ∨ cl111.slots.size ≤ ((1 : Int32)).toNatClampNeg) := inb_of S111 ⟨by decide, by decide⟩
    have hat111 : cl111.slots[((1 : Int32)).toNatClampNeg]? = some (.int (p1.toInt8.toInt32)) := H111.at hin111 rfl
    have pre112 : ∀ t, Steps p.tables e below (T110.setTop (mkF m 66 #[iv p0, iv p1, iv p2, iv p3, iv p4, rv b2, iv (4 : Int32), rv b107, .unset] [(.int (p1.toInt8.toInt32)), (.int (1 : Int32)), (.ref b107)])) t → Steps p.tables e below (s₁.setTop (entryFrame m #[(.int p0), (.int p1), (.int p2), (.int p3), (.int p4)] maxLocals)) t := by
      intro t kt
      refine pre109 _ ?_
      show Steps p.tables e below (T107.setTop (mkF m 52 #[iv p0, iv p1, iv p2, iv p3, iv p4, rv b2, iv (4 : Int32), rv b107, .unset] [(.int (p0.toInt8.toInt32)), (.int (0 : Int32)), (.ref b107)])) _
      refine st110 _ ?_
      show Steps p.tables e below (T110.setTop (mkF m 53 #[iv p0, iv p1, iv p2, iv p3, iv p4, rv b2, iv (4 : Int32), rv b107, .unset] [])) _
      refine XS.iload X110.here hx rfl (hb hby at_53) rfl ?_
      show Steps p.tables e below (T110.setTop (mkF m 55 #[iv p0, iv p1, iv p2, iv p3, iv p4, rv b2, iv (4 : Int32), rv b107, .unset] [(.int (4 : Int32))])) _
      refine XS.iconst X110.here hx rfl (hb hby at_55) ?_
      show Steps p.tables e below (T110.setTop (mkF m 56 #[iv p0, iv p1, iv p2, iv p3, iv p4, rv b2, iv (4 : Int32), rv b107, .unset] [(.int (1 : Int32)), (.int (4 : Int32))])) _
      refine XS.icmpNo X110.here hx rfl (hb hby at_56) rfl (tlt (by decide)).2.2.2 ?_
      show Steps p.tables e below (T110.setTop (mkF m 59 #[iv p0, iv p1, iv p2, iv p3, iv p4, rv b2, iv (4 : Int32), rv b107, .unset] [])) _
      refine XS.aload X110.here hx rfl (hb hby at_59) rfl rfl ?_
      show Steps p.tables e below (T110.setTop (mkF m 61 #[iv p0, iv p1, iv p2, iv p3, iv p4, rv b2, iv (4 : Int32), rv b107, .unset] [(.ref b107)])) _
      refine XS.iconst X110.here hx rfl (hb hby at_61) ?_
      show Steps p.tables e below (T110.setTop (mkF m 62 #[iv p0, iv p1, iv p2, iv p3, iv p4, rv b2, iv (4 : Int32), rv b107, .unset] [(.int (1 : Int32)), (.ref b107)])) _
      refine XS.aload X110.here hx rfl (hb hby at_62) rfl rfl ?_
      show Steps p.tables e below (T110.setTop (mkF m 64 #[iv p0, iv p1, iv p2, iv p3, iv p4, rv b2, iv (4 : Int32), rv b107, .unset] [(.ref b2), (.int (1 : Int32)), (.ref b107)])) _
      refine XS.iconst X110.here hx rfl (hb hby at_64) ?_
      show Steps p.tables e below (T110.setTop (mkF m 65 #[iv p0, iv p1, iv p2, iv p3, iv p4, rv b2, iv (4 : Int32), rv b107, .unset] [(.int (1 : Int32)), (.ref b2), (.int (1 : Int32)), (.ref b107)])) _
      refine X110.baloadBytes hx (j := (1 : Int32)) (v := (.int (p1.toInt8.toInt32))) (by rw [e110]; exact Ar111.1) (State.isArrayOf_alike hZ.alike Ar111.2.1) Ar111.2.2 hin111 hat111 (g := (mkF m 65 #[iv p0, iv p1, iv p2, iv p3, iv p4, rv b2, iv (4 : Int32), rv b107, .unset] [(.int (1 : Int32)), (.ref b2), (.int (1 : Int32)), (.ref b107)])) rfl rfl (hb hby at_65) _ ?_
      exact kt
    obtain ⟨cl113, Ar113, q113, S113, M113, H113, G113⟩ := id V110
    have hin113 : ¬ ((1 : Int32) < 0 ∨ cl113.slots.size ≤ ((1 : Int32)).toNatClampNeg) := inb_of S113 ⟨by decide, by decide⟩
    obtain ⟨T113, h113, X113, e113, W113, st113⟩ := stB X110 hx hZ e110 Ar113 (j := (1 : Int32)) hin113 (g := (mkF m 66 #[iv p0, iv p1, iv p2, iv p3, iv p4, rv b2, iv (4 : Int32), rv b107, .unset] [(.int (p1.toInt8.toInt32)), (.int (1 : Int32)), (.ref b107)])) rfl rfl (hb hby at_66)
    have nn113 : nar .byte (p1.toInt8.toInt32) = (p1.toInt8.toInt32) := (own_nb _)
    rw [nn113] at W113
    have V113 : Arv Z h113 b107 k107 .byte (4 : Int32) [(.int (p0.toInt8.toInt32)), (.int (p1.toInt8.toInt32)), (.int (0 : Int32)), (.int (0 : Int32))] (.int (0 : Int32)) := Arv.set Ar113 q113 S113 M113 H113 G113 (own_fb nn113) W113 1 rfl (Nat.le_of_ble_eq_true rfl)
    have K113 : Keep h0 h113 [] := K110.wr W113 (Or.inr sz_b107)
    have N113 := Fr.snoc X113 N110 g_b107
    obtain ⟨cl114, Ar114, q114, S114, M114, H114, G114⟩ := id (((V10.ext E107).other W110 (Nat.ne_of_lt (Nat.lt_of_lt_of_le V10.lt (Nat.le_of_eq g107.symm)))).other W113 (Nat.ne_of_lt (Nat.lt_of_lt_of_le V10.lt (Nat.le_of_eq g107.symm))))
    have hin114 : ¬ ((2 : Int32) < 0 ∨ cl114.slots.size ≤ ((2 : Int32)).toNatClampNeg) := inb_of S114 ⟨by decide, by decide⟩
    have hat114 : cl114.slots[((2 : Int32)).toNatClampNeg]? = some (.int (p2.toInt8.toInt32)) := H114.at hin114 rfl
    have pre115 : ∀ t, Steps p.tables e below (T113.setTop (mkF m 80 #[iv p0, iv p1, iv p2, iv p3, iv p4, rv b2, iv (4 : Int32), rv b107, .unset] [(.int (p2.toInt8.toInt32)), (.int (2 : Int32)), (.ref b107)])) t → Steps p.tables e below (s₁.setTop (entryFrame m #[(.int p0), (.int p1), (.int p2), (.int p3), (.int p4)] maxLocals)) t := by
      intro t kt
      refine pre112 _ ?_
      show Steps p.tables e below (T110.setTop (mkF m 66 #[iv p0, iv p1, iv p2, iv p3, iv p4, rv b2, iv (4 : Int32), rv b107, .unset] [(.int (p1.toInt8.toInt32)), (.int (1 : Int32)), (.ref b107)])) _
      refine st113 _ ?_
      show Steps p.tables e below (T113.setTop (mkF m 67 #[iv p0, iv p1, iv p2, iv p3, iv p4, rv b2, iv (4 : Int32), rv b107, .unset] [])) _
      refine XS.iload X113.here hx rfl (hb hby at_67) rfl ?_
      show Steps p.tables e below (T113.setTop (mkF m 69 #[iv p0, iv p1, iv p2, iv p3, iv p4, rv b2, iv (4 : Int32), rv b107, .unset] [(.int (4 : Int32))])) _
      refine XS.iconst X113.here hx rfl (hb hby at_69) ?_
      show Steps p.tables e below (T113.setTop (mkF m 70 #[iv p0, iv p1, iv p2, iv p3, iv p4, rv b2, iv (4 : Int32), rv b107, .unset] [(.int (2 : Int32)), (.int (4 : Int32))])) _
      refine XS.icmpNo X113.here hx rfl (hb hby at_70) rfl (tlt (by decide)).2.2.2 ?_
      show Steps p.tables e below (T113.setTop (mkF m 73 #[iv p0, iv p1, iv p2, iv p3, iv p4, rv b2, iv (4 : Int32), rv b107, .unset] [])) _
      refine XS.aload X113.here hx rfl (hb hby at_73) rfl rfl ?_
      show Steps p.tables e below (T113.setTop (mkF m 75 #[iv p0, iv p1, iv p2, iv p3, iv p4, rv b2, iv (4 : Int32), rv b107, .unset] [(.ref b107)])) _
      refine XS.iconst X113.here hx rfl (hb hby at_75) ?_
      show Steps p.tables e below (T113.setTop (mkF m 76 #[iv p0, iv p1, iv p2, iv p3, iv p4, rv b2, iv (4 : Int32), rv b107, .unset] [(.int (2 : Int32)), (.ref b107)])) _
      refine XS.aload X113.here hx rfl (hb hby at_76) rfl rfl ?_
      show Steps p.tables e below (T113.setTop (mkF m 78 #[iv p0, iv p1, iv p2, iv p3, iv p4, rv b2, iv (4 : Int32), rv b107, .unset] [(.ref b2), (.int (2 : Int32)), (.ref b107)])) _
      refine XS.iconst X113.here hx rfl (hb hby at_78) ?_
      show Steps p.tables e below (T113.setTop (mkF m 79 #[iv p0, iv p1, iv p2, iv p3, iv p4, rv b2, iv (4 : Int32), rv b107, .unset] [(.int (2 : Int32)), (.ref b2), (.int (2 : Int32)), (.ref b107)])) _
      refine X113.baloadBytes hx (j := (2 : Int32)) (v := (.int (p2.toInt8.toInt32))) (by rw [e113]; exact Ar114.1) (State.isArrayOf_alike hZ.alike Ar114.2.1) Ar114.2.2 hin114 hat114 (g := (mkF m 79 #[iv p0, iv p1, iv p2, iv p3, iv p4, rv b2, iv (4 : Int32), rv b107, .unset] [(.int (2 : Int32)), (.ref b2), (.int (2 : Int32)), (.ref b107)])) rfl rfl (hb hby at_79) _ ?_
      exact kt
    obtain ⟨cl116, Ar116, q116, S116, M116, H116, G116⟩ := id V113
    have hin116 : ¬ ((2 : Int32) < 0 ∨ cl116.slots.size ≤ ((2 : Int32)).toNatClampNeg) := inb_of S116 ⟨by decide, by decide⟩
    obtain ⟨T116, h116, X116, e116, W116, st116⟩ := stB X113 hx hZ e113 Ar116 (j := (2 : Int32)) hin116 (g := (mkF m 80 #[iv p0, iv p1, iv p2, iv p3, iv p4, rv b2, iv (4 : Int32), rv b107, .unset] [(.int (p2.toInt8.toInt32)), (.int (2 : Int32)), (.ref b107)])) rfl rfl (hb hby at_80)
    have nn116 : nar .byte (p2.toInt8.toInt32) = (p2.toInt8.toInt32) := (own_nb _)
    rw [nn116] at W116
    have V116 : Arv Z h116 b107 k107 .byte (4 : Int32) [(.int (p0.toInt8.toInt32)), (.int (p1.toInt8.toInt32)), (.int (p2.toInt8.toInt32)), (.int (0 : Int32))] (.int (0 : Int32)) := Arv.set Ar116 q116 S116 M116 H116 G116 (own_fb nn116) W116 2 rfl (Nat.le_of_ble_eq_true rfl)
    have K116 : Keep h0 h116 [] := K113.wr W116 (Or.inr sz_b107)
    have N116 := Fr.snoc X116 N113 g_b107
    obtain ⟨cl117, Ar117, q117, S117, M117, H117, G117⟩ := id ((((V10.ext E107).other W110 (Nat.ne_of_lt (Nat.lt_of_lt_of_le V10.lt (Nat.le_of_eq g107.symm)))).other W113 (Nat.ne_of_lt (Nat.lt_of_lt_of_le V10.lt (Nat.le_of_eq g107.symm)))).other W116 (Nat.ne_of_lt (Nat.lt_of_lt_of_le V10.lt (Nat.le_of_eq g107.symm))))
    have hin117 : ¬ ((3 : Int32) < 0 ∨ cl117.slots.size ≤ ((3 : Int32)).toNatClampNeg) := inb_of S117 ⟨by decide, by decide⟩
    have hat117 : cl117.slots[((3 : Int32)).toNatClampNeg]? = some (.int (p3.toInt8.toInt32)) := H117.at hin117 rfl
    have pre118 : ∀ t, Steps p.tables e below (T116.setTop (mkF m 94 #[iv p0, iv p1, iv p2, iv p3, iv p4, rv b2, iv (4 : Int32), rv b107, .unset] [(.int (p3.toInt8.toInt32)), (.int (3 : Int32)), (.ref b107)])) t → Steps p.tables e below (s₁.setTop (entryFrame m #[(.int p0), (.int p1), (.int p2), (.int p3), (.int p4)] maxLocals)) t := by
      intro t kt
      refine pre115 _ ?_
      show Steps p.tables e below (T113.setTop (mkF m 80 #[iv p0, iv p1, iv p2, iv p3, iv p4, rv b2, iv (4 : Int32), rv b107, .unset] [(.int (p2.toInt8.toInt32)), (.int (2 : Int32)), (.ref b107)])) _
      refine st116 _ ?_
      show Steps p.tables e below (T116.setTop (mkF m 81 #[iv p0, iv p1, iv p2, iv p3, iv p4, rv b2, iv (4 : Int32), rv b107, .unset] [])) _
      refine XS.iload X116.here hx rfl (hb hby at_81) rfl ?_
      show Steps p.tables e below (T116.setTop (mkF m 83 #[iv p0, iv p1, iv p2, iv p3, iv p4, rv b2, iv (4 : Int32), rv b107, .unset] [(.int (4 : Int32))])) _
      refine XS.iconst X116.here hx rfl (hb hby at_83) ?_
      show Steps p.tables e below (T116.setTop (mkF m 84 #[iv p0, iv p1, iv p2, iv p3, iv p4, rv b2, iv (4 : Int32), rv b107, .unset] [(.int (3 : Int32)), (.int (4 : Int32))])) _
      refine XS.icmpNo X116.here hx rfl (hb hby at_84) rfl (tlt (by decide)).2.2.2 ?_
      show Steps p.tables e below (T116.setTop (mkF m 87 #[iv p0, iv p1, iv p2, iv p3, iv p4, rv b2, iv (4 : Int32), rv b107, .unset] [])) _
      refine XS.aload X116.here hx rfl (hb hby at_87) rfl rfl ?_
      show Steps p.tables e below (T116.setTop (mkF m 89 #[iv p0, iv p1, iv p2, iv p3, iv p4, rv b2, iv (4 : Int32), rv b107, .unset] [(.ref b107)])) _
      refine XS.iconst X116.here hx rfl (hb hby at_89) ?_
      show Steps p.tables e below (T116.setTop (mkF m 90 #[iv p0, iv p1, iv p2, iv p3, iv p4, rv b2, iv (4 : Int32), rv b107, .unset] [(.int (3 : Int32)), (.ref b107)])) _
      refine XS.aload X116.here hx rfl (hb hby at_90) rfl rfl ?_
      show Steps p.tables e below (T116.setTop (mkF m 92 #[iv p0, iv p1, iv p2, iv p3, iv p4, rv b2, iv (4 : Int32), rv b107, .unset] [(.ref b2), (.int (3 : Int32)), (.ref b107)])) _
      refine XS.iconst X116.here hx rfl (hb hby at_92) ?_
      show Steps p.tables e below (T116.setTop (mkF m 93 #[iv p0, iv p1, iv p2, iv p3, iv p4, rv b2, iv (4 : Int32), rv b107, .unset] [(.int (3 : Int32)), (.ref b2), (.int (3 : Int32)), (.ref b107)])) _
      refine X116.baloadBytes hx (j := (3 : Int32)) (v := (.int (p3.toInt8.toInt32))) (by rw [e116]; exact Ar117.1) (State.isArrayOf_alike hZ.alike Ar117.2.1) Ar117.2.2 hin117 hat117 (g := (mkF m 93 #[iv p0, iv p1, iv p2, iv p3, iv p4, rv b2, iv (4 : Int32), rv b107, .unset] [(.int (3 : Int32)), (.ref b2), (.int (3 : Int32)), (.ref b107)])) rfl rfl (hb hby at_93) _ ?_
      exact kt
    obtain ⟨cl119, Ar119, q119, S119, M119, H119, G119⟩ := id V116
    have hin119 : ¬ ((3 : Int32) < 0 ∨ cl119.slots.size ≤ ((3 : Int32)).toNatClampNeg) := inb_of S119 ⟨by decide, by decide⟩
    obtain ⟨T119, h119, X119, e119, W119, st119⟩ := stB X116 hx hZ e116 Ar119 (j := (3 : Int32)) hin119 (g := (mkF m 94 #[iv p0, iv p1, iv p2, iv p3, iv p4, rv b2, iv (4 : Int32), rv b107, .unset] [(.int (p3.toInt8.toInt32)), (.int (3 : Int32)), (.ref b107)])) rfl rfl (hb hby at_94)
    have nn119 : nar .byte (p3.toInt8.toInt32) = (p3.toInt8.toInt32) := (own_nb _)
    rw [nn119] at W119
    have V119 : Arv Z h119 b107 k107 .byte (4 : Int32) [(.int (p0.toInt8.toInt32)), (.int (p1.toInt8.toInt32)), (.int (p2.toInt8.toInt32)), (.int (p3.toInt8.toInt32))] (.int (0 : Int32)) := Arv.set Ar119 q119 S119 M119 H119 G119 (own_fb nn119) W119 3 rfl (Nat.le_of_ble_eq_true rfl)
    have K119 : Keep h0 h119 [] := K116.wr W119 (Or.inr sz_b107)
    have N119 := Fr.snoc X119 N116 g_b107
    have pre120 : ∀ t, Steps p.tables e below (T119.setTop (mkF m 97 #[iv p0, iv p1, iv p2, iv p3, iv p4, rv b2, iv (4 : Int32), rv b107, .unset] [(.ref b107)])) t → Steps p.tables e below (s₁.setTop (entryFrame m #[(.int p0), (.int p1), (.int p2), (.int p3), (.int p4)] maxLocals)) t := by
      intro t kt
      refine pre118 _ ?_
      show Steps p.tables e below (T116.setTop (mkF m 94 #[iv p0, iv p1, iv p2, iv p3, iv p4, rv b2, iv (4 : Int32), rv b107, .unset] [(.int (p3.toInt8.toInt32)), (.int (3 : Int32)), (.ref b107)])) _
      refine st119 _ ?_
      show Steps p.tables e below (T119.setTop (mkF m 95 #[iv p0, iv p1, iv p2, iv p3, iv p4, rv b2, iv (4 : Int32), rv b107, .unset] [])) _
      refine XS.aload X119.here hx rfl (hb hby at_95) rfl rfl ?_
      exact kt
    obtain ⟨_, _, ⟨T121, L121, k121, n121⟩, -, X121, ⟨Lc121, hQ121, l121, y121, z121⟩, st121⟩ := Jvm.LawKit.callS X119 hx (y := (⟨"com/example/ereikoussa/ereikoussa/dns/DnsName", "lowerCase", "([B)[B"⟩ : MethodName)) hown (mvT hZ (hw _ (List.mem_of_getElem? (i := 1) rfl))) (mvT hZ (hw _ (List.mem_of_getElem? (i := 2) rfl))) (mvT hZ (hw _ (List.mem_of_getElem? (i := 3) rfl))) (mvT hZ (hw _ (List.mem_of_getElem? (i := 4) rfl))) (by decide) (backOf (W := 0) (rm1 l Z a0 hw [] b107 k107 (fun k => ([(p0.toInt8.toInt32), (p1.toInt8.toInt32), (p2.toInt8.toInt32), (p3.toInt8.toInt32)] : List Int32).getD k 0) 4 h119 n0 (Nat.le_trans Z0 K119.1) (by decide) V119 ((((Ex107.wr W110).wr W113).wr W116).wr W119)) hZ (hw _ (List.mem_of_getElem? (i := 4) rfl)) (hw _ (List.mem_of_getElem? (i := 3) rfl)) (by decide) (by decide)) (g := (mkF m 97 #[iv p0, iv p1, iv p2, iv p3, iv p4, rv b2, iv (4 : Int32), rv b107, .unset] [(.ref b107)])) rfl (by rw [hml]; rfl) (argsL := [(.ref b107)]) (rest := []) (lenOf pd3 rfl) rfl (by show 2 * 0 + _ ≤ _; exact Nat.le_of_eq rfl) (hb hby at_97) (fun _ _ => ⟨rfl, e119, (by decide : 2 + 1 ≤ _), (by decide : 8 + 4 ≤ _)⟩)
    dsimp only [Pt.U, Pt.locs, Pt.cells, Pt.slots] at X121 l121 y121 z121 st121 hQ121
    subst l121 y121 z121
    obtain ⟨bo121, rfl, N121q, Kc121, Vo121⟩ := hQ121
    have N121 := Fr.app N119 N121q
    have K121 : Keep h0 T121.heap [] := K119.trans Kc121 all0
    have Vp121 : Arv Z T121.heap bo121 k107 .byte (4 : Int32) [(.int (own_lowb (p0.toInt8.toInt32))), (.int (own_lowb (p1.toInt8.toInt32))), (.int (own_lowb (p2.toInt8.toInt32))), (.int (own_lowb (p3.toInt8.toInt32)))] (.int (0 : Int32)) := Vo121
    obtain ⟨cl122, Ar122, -, S122, M122, -, -⟩ := id Vp121
    obtain ⟨cl123, Ar123, -, S123, M123, -, -⟩ := id (V119.keep Kc121 nin0)
    obtain ⟨cl124, Ar124, q124, S124, M124, H124, G124⟩ := id ((((((V10.ext E107).other W110 (Nat.ne_of_lt (Nat.lt_of_lt_of_le V10.lt (Nat.le_of_eq g107.symm)))).other W113 (Nat.ne_of_lt (Nat.lt_of_lt_of_le V10.lt (Nat.le_of_eq g107.symm)))).other W116 (Nat.ne_of_lt (Nat.lt_of_lt_of_le V10.lt (Nat.le_of_eq g107.symm)))).other W119 (Nat.ne_of_lt (Nat.lt_of_lt_of_le V10.lt (Nat.le_of_eq g107.symm)))).keep Kc121 nin0)
    have hin124 : ¬ ((0 : Int32) < 0 ∨ cl124.slots.size ≤ ((0 : Int32)).toNatClampNeg) := inb_of S124 ⟨by decide, by decide⟩
    have hat124 : cl124.slots[((0 : Int32)).toNatClampNeg]? = some (.int (p0.toInt8.toInt32)) := H124.at hin124 rfl
    have pre125 : ∀ t, Steps p.tables e below (T121.setTop (mkF m 134 #[iv p0, iv p1, iv p2, iv p3, iv p4, rv b2, iv (4 : Int32), rv b107, rv bo121] [(.int (p0.toInt8.toInt32)), (.int (0 : Int32)), (.ref b107), (.ref bo121)])) t → Steps p.tables e below (s₁.setTop (entryFrame m #[(.int p0), (.int p1), (.int p2), (.int p3), (.int p4)] maxLocals)) t := by
      intro t kt
      refine pre120 _ ?_
      show Steps p.tables e below (T119.setTop (mkF m 97 #[iv p0, iv p1, iv p2, iv p3, iv p4, rv b2, iv (4 : Int32), rv b107, .unset] [(.ref b107)])) _
      refine st121 _ ?_
      show Steps p.tables e below (T121.setTop (mkF m 100 #[iv p0, iv p1, iv p2, iv p3, iv p4, rv b2, iv (4 : Int32), rv b107, .unset] [(.ref bo121)])) _
      refine XS.astore X121.here hx rfl (hb hby at_100) rfl rfl (l' := #[iv p0, iv p1, iv p2, iv p3, iv p4, rv b2, iv (4 : Int32), rv b107, rv bo121]) rfl ?_
      show Steps p.tables e below (T121.setTop (mkF m 102 #[iv p0, iv p1, iv p2, iv p3, iv p4, rv b2, iv (4 : Int32), rv b107, rv bo121] [])) _
      refine XS.aload X121.here hx rfl (hb hby at_102) rfl rfl ?_
      show Steps p.tables e below (T121.setTop (mkF m 104 #[iv p0, iv p1, iv p2, iv p3, iv p4, rv b2, iv (4 : Int32), rv b107, rv bo121] [(.ref bo121)])) _
      refine XS.ifnullNo X121.here hx rfl (hb hby at_104) rfl ?_
      show Steps p.tables e below (T121.setTop (mkF m 107 #[iv p0, iv p1, iv p2, iv p3, iv p4, rv b2, iv (4 : Int32), rv b107, rv bo121] [])) _
      refine XS.aload X121.here hx rfl (hb hby at_107) rfl rfl ?_
      show Steps p.tables e below (T121.setTop (mkF m 109 #[iv p0, iv p1, iv p2, iv p3, iv p4, rv b2, iv (4 : Int32), rv b107, rv bo121] [(.ref bo121)])) _
      refine X121.arraylength hx Ar122.1 (State.isArrayOf_alike hZ.alike Ar122.2.1) (g := (mkF m 109 #[iv p0, iv p1, iv p2, iv p3, iv p4, rv b2, iv (4 : Int32), rv b107, rv bo121] [(.ref bo121)])) rfl rfl (hb hby at_109) _ ?_
      rw [len_of S122 M122]
      show Steps p.tables e below (T121.setTop (mkF m 110 #[iv p0, iv p1, iv p2, iv p3, iv p4, rv b2, iv (4 : Int32), rv b107, rv bo121] [(.int (4 : Int32))])) _
      refine XS.iload X121.here hx rfl (hb hby at_110) rfl ?_
      show Steps p.tables e below (T121.setTop (mkF m 112 #[iv p0, iv p1, iv p2, iv p3, iv p4, rv b2, iv (4 : Int32), rv b107, rv bo121] [(.int (4 : Int32)), (.int (4 : Int32))])) _
      refine XS.icmpNo X121.here hx rfl (hb hby at_112) rfl (teq (by decide)).2 ?_
      show Steps p.tables e below (T121.setTop (mkF m 115 #[iv p0, iv p1, iv p2, iv p3, iv p4, rv b2, iv (4 : Int32), rv b107, rv bo121] [])) _
      refine XS.aload X121.here hx rfl (hb hby at_115) rfl rfl ?_
      show Steps p.tables e below (T121.setTop (mkF m 117 #[iv p0, iv p1, iv p2, iv p3, iv p4, rv b2, iv (4 : Int32), rv b107, rv bo121] [(.ref b107)])) _
      refine X121.arraylength hx Ar123.1 (State.isArrayOf_alike hZ.alike Ar123.2.1) (g := (mkF m 117 #[iv p0, iv p1, iv p2, iv p3, iv p4, rv b2, iv (4 : Int32), rv b107, rv bo121] [(.ref b107)])) rfl rfl (hb hby at_117) _ ?_
      rw [len_of S123 M123]
      show Steps p.tables e below (T121.setTop (mkF m 118 #[iv p0, iv p1, iv p2, iv p3, iv p4, rv b2, iv (4 : Int32), rv b107, rv bo121] [(.int (4 : Int32))])) _
      refine XS.iload X121.here hx rfl (hb hby at_118) rfl ?_
      show Steps p.tables e below (T121.setTop (mkF m 120 #[iv p0, iv p1, iv p2, iv p3, iv p4, rv b2, iv (4 : Int32), rv b107, rv bo121] [(.int (4 : Int32)), (.int (4 : Int32))])) _
      refine XS.icmpYes X121.here hx rfl (pc0 := 120) (pc' := 125) rfl (hb hby at_120) rfl (teq (by decide)).1 (by decide) (by decide) ?_
      show Steps p.tables e below (T121.setTop (mkF m 125 #[iv p0, iv p1, iv p2, iv p3, iv p4, rv b2, iv (4 : Int32), rv b107, rv bo121] [])) _
      refine XS.aload X121.here hx rfl (hb hby at_125) rfl rfl ?_
      show Steps p.tables e below (T121.setTop (mkF m 127 #[iv p0, iv p1, iv p2, iv p3, iv p4, rv b2, iv (4 : Int32), rv b107, rv bo121] [(.ref bo121)])) _
      refine XS.aload X121.here hx rfl (hb hby at_127) rfl rfl ?_
      show Steps p.tables e below (T121.setTop (mkF m 129 #[iv p0, iv p1, iv p2, iv p3, iv p4, rv b2, iv (4 : Int32), rv b107, rv bo121] [(.ref b107), (.ref bo121)])) _
      refine XS.iconst X121.here hx rfl (hb hby at_129) ?_
      show Steps p.tables e below (T121.setTop (mkF m 130 #[iv p0, iv p1, iv p2, iv p3, iv p4, rv b2, iv (4 : Int32), rv b107, rv bo121] [(.int (0 : Int32)), (.ref b107), (.ref bo121)])) _
      refine XS.aload X121.here hx rfl (hb hby at_130) rfl rfl ?_
      show Steps p.tables e below (T121.setTop (mkF m 132 #[iv p0, iv p1, iv p2, iv p3, iv p4, rv b2, iv (4 : Int32), rv b107, rv bo121] [(.ref b2), (.int (0 : Int32)), (.ref b107), (.ref bo121)])) _
      refine XS.iconst X121.here hx rfl (hb hby at_132) ?_
      show Steps p.tables e below (T121.setTop (mkF m 133 #[iv p0, iv p1, iv p2, iv p3, iv p4, rv b2, iv (4 : Int32), rv b107, rv bo121] [(.int (0 : Int32)), (.ref b2), (.int (0 : Int32)), (.ref b107), (.ref bo121)])) _
      refine X121.baloadBytes hx (j := (0 : Int32)) (v := (.int (p0.toInt8.toInt32))) Ar124.1 (State.isArrayOf_alike hZ.alike Ar124.2.1) Ar124.2.2 hin124 hat124 (g := (mkF m 133 #[iv p0, iv p1, iv p2, iv p3, iv p4, rv b2, iv (4 : Int32), rv b107, rv bo121] [(.int (0 : Int32)), (.ref b2), (.int (0 : Int32)), (.ref b107), (.ref bo121)])) rfl rfl (hb hby at_133) _ ?_
      exact kt
    obtain ⟨_, _, ⟨T126, L126, k126, n126⟩, -, X126, ⟨Lc126, hQ126, l126, y126, z126⟩, st126⟩ := Jvm.LawKit.callS X121 hx (y := (⟨"com/example/ereikoussa/ereikoussa/dns/DnsNameLowerCasePinLaw", "at", "([B[BIB)Z"⟩ : MethodName)) hown (mvT hZ (hw _ (List.mem_of_getElem? (i := 14) rfl))) (mvT hZ (hw _ (List.mem_of_getElem? (i := 15) rfl))) (mvT hZ (hw _ (List.mem_of_getElem? (i := 16) rfl))) (mvT hZ (hw _ (List.mem_of_getElem? (i := 17) rfl))) (by decide) (backOf (W := 0) (rm2 l Z a0 hw [] bo121 b107 (0 : Int32) (p0.toInt8.toInt32) k107 k107 (4 : Int32) [(.int (own_lowb (p0.toInt8.toInt32))), (.int (own_lowb (p1.toInt8.toInt32))), (.int (own_lowb (p2.toInt8.toInt32))), (.int (own_lowb (p3.toInt8.toInt32)))] [(.int (p0.toInt8.toInt32)), (.int (p1.toInt8.toInt32)), (.int (p2.toInt8.toInt32)), (.int (p3.toInt8.toInt32))] (.int (0 : Int32)) (.int (0 : Int32)) T121.heap n0 (Nat.le_trans Z0 K121.1) Vp121 (V119.keep Kc121 nin0) (by decide) (fun _ => ⟨congrArg Value.int (own_low_eq _ (own_nb _)).symm, rfl⟩)) hZ (hw _ (List.mem_of_getElem? (i := 17) rfl)) (hw _ (List.mem_of_getElem? (i := 16) rfl)) (by decide) (by decide)) (g := (mkF m 134 #[iv p0, iv p1, iv p2, iv p3, iv p4, rv b2, iv (4 : Int32), rv b107, rv bo121] [(.int (p0.toInt8.toInt32)), (.int (0 : Int32)), (.ref b107), (.ref bo121)])) rfl (by rw [hml]; rfl) (argsL := [(.ref bo121), (.ref b107), (.int (0 : Int32)), (.int (p0.toInt8.toInt32))]) (rest := []) (lenOf pd4 rfl) rfl (by show 2 * 0 + _ ≤ _; exact Nat.le_of_eq rfl) (hb hby at_134) (fun _ _ => ⟨rfl, rfl, (by decide : 3 + 0 ≤ _), (by decide : 12 + 0 ≤ _)⟩)
    dsimp only [Pt.U, Pt.locs, Pt.cells, Pt.slots] at X126 l126 y126 z126 st126 hQ126
    subst l126 y126 z126
    obtain ⟨rfl, N126q, hh126⟩ := hQ126
    have N126 := Fr.app N121 N126q
    obtain ⟨cl127, Ar127, q127, S127, M127, H127, G127⟩ := id ((((((V10.ext E107).other W110 (Nat.ne_of_lt (Nat.lt_of_lt_of_le V10.lt (Nat.le_of_eq g107.symm)))).other W113 (Nat.ne_of_lt (Nat.lt_of_lt_of_le V10.lt (Nat.le_of_eq g107.symm)))).other W116 (Nat.ne_of_lt (Nat.lt_of_lt_of_le V10.lt (Nat.le_of_eq g107.symm)))).other W119 (Nat.ne_of_lt (Nat.lt_of_lt_of_le V10.lt (Nat.le_of_eq g107.symm)))).keep Kc121 nin0)
    have hin127 : ¬ ((1 : Int32) < 0 ∨ cl127.slots.size ≤ ((1 : Int32)).toNatClampNeg) := inb_of S127 ⟨by decide, by decide⟩
    have hat127 : cl127.slots[((1 : Int32)).toNatClampNeg]? = some (.int (p1.toInt8.toInt32)) := H127.at hin127 rfl
    have pre128 : ∀ t, Steps p.tables e below (T126.setTop (mkF m 149 #[iv p0, iv p1, iv p2, iv p3, iv p4, rv b2, iv (4 : Int32), rv b107, rv bo121] [(.int (p1.toInt8.toInt32)), (.int (1 : Int32)), (.ref b107), (.ref bo121)])) t → Steps p.tables e below (s₁.setTop (entryFrame m #[(.int p0), (.int p1), (.int p2), (.int p3), (.int p4)] maxLocals)) t := by
      intro t kt
      refine pre125 _ ?_
      show Steps p.tables e below (T121.setTop (mkF m 134 #[iv p0, iv p1, iv p2, iv p3, iv p4, rv b2, iv (4 : Int32), rv b107, rv bo121] [(.int (p0.toInt8.toInt32)), (.int (0 : Int32)), (.ref b107), (.ref bo121)])) _
      refine st126 _ ?_
      show Steps p.tables e below (T126.setTop (mkF m 137 #[iv p0, iv p1, iv p2, iv p3, iv p4, rv b2, iv (4 : Int32), rv b107, rv bo121] [(.int (1 : Int32))])) _
      refine XS.ifNo X126.here hx rfl (hb hby at_137) rfl ((if0 _ _).trans (feq (by decide)).1) ?_
      show Steps p.tables e below (T126.setTop (mkF m 140 #[iv p0, iv p1, iv p2, iv p3, iv p4, rv b2, iv (4 : Int32), rv b107, rv bo121] [])) _
      refine XS.aload X126.here hx rfl (hb hby at_140) rfl rfl ?_
      show Steps p.tables e below (T126.setTop (mkF m 142 #[iv p0, iv p1, iv p2, iv p3, iv p4, rv b2, iv (4 : Int32), rv b107, rv bo121] [(.ref bo121)])) _
      refine XS.aload X126.here hx rfl (hb hby at_142) rfl rfl ?_
      show Steps p.tables e below (T126.setTop (mkF m 144 #[iv p0, iv p1, iv p2, iv p3, iv p4, rv b2, iv (4 : Int32), rv b107, rv bo121] [(.ref b107), (.ref bo121)])) _
      refine XS.iconst X126.here hx rfl (hb hby at_144) ?_
      show Steps p.tables e below (T126.setTop (mkF m 145 #[iv p0, iv p1, iv p2, iv p3, iv p4, rv b2, iv (4 : Int32), rv b107, rv bo121] [(.int (1 : Int32)), (.ref b107), (.ref bo121)])) _
      refine XS.aload X126.here hx rfl (hb hby at_145) rfl rfl ?_
      show Steps p.tables e below (T126.setTop (mkF m 147 #[iv p0, iv p1, iv p2, iv p3, iv p4, rv b2, iv (4 : Int32), rv b107, rv bo121] [(.ref b2), (.int (1 : Int32)), (.ref b107), (.ref bo121)])) _
      refine XS.iconst X126.here hx rfl (hb hby at_147) ?_
      show Steps p.tables e below (T126.setTop (mkF m 148 #[iv p0, iv p1, iv p2, iv p3, iv p4, rv b2, iv (4 : Int32), rv b107, rv bo121] [(.int (1 : Int32)), (.ref b2), (.int (1 : Int32)), (.ref b107), (.ref bo121)])) _
      refine X126.baloadBytes hx (j := (1 : Int32)) (v := (.int (p1.toInt8.toInt32))) (by rw [hh126]; exact Ar127.1) (State.isArrayOf_alike hZ.alike Ar127.2.1) Ar127.2.2 hin127 hat127 (g := (mkF m 148 #[iv p0, iv p1, iv p2, iv p3, iv p4, rv b2, iv (4 : Int32), rv b107, rv bo121] [(.int (1 : Int32)), (.ref b2), (.int (1 : Int32)), (.ref b107), (.ref bo121)])) rfl rfl (hb hby at_148) _ ?_
      exact kt
    obtain ⟨_, _, ⟨T129, L129, k129, n129⟩, -, X129, ⟨Lc129, hQ129, l129, y129, z129⟩, st129⟩ := Jvm.LawKit.callS X126 hx (y := (⟨"com/example/ereikoussa/ereikoussa/dns/DnsNameLowerCasePinLaw", "at", "([B[BIB)Z"⟩ : MethodName)) hown (mvT hZ (hw _ (List.mem_of_getElem? (i := 14) rfl))) (mvT hZ (hw _ (List.mem_of_getElem? (i := 15) rfl))) (mvT hZ (hw _ (List.mem_of_getElem? (i := 16) rfl))) (mvT hZ (hw _ (List.mem_of_getElem? (i := 17) rfl))) (by decide) (backOf (W := 0) (rm2 l Z a0 hw [] bo121 b107 (1 : Int32) (p1.toInt8.toInt32) k107 k107 (4 : Int32) [(.int (own_lowb (p0.toInt8.toInt32))), (.int (own_lowb (p1.toInt8.toInt32))), (.int (own_lowb (p2.toInt8.toInt32))), (.int (own_lowb (p3.toInt8.toInt32)))] [(.int (p0.toInt8.toInt32)), (.int (p1.toInt8.toInt32)), (.int (p2.toInt8.toInt32)), (.int (p3.toInt8.toInt32))] (.int (0 : Int32)) (.int (0 : Int32)) T121.heap n0 (Nat.le_trans Z0 K121.1) Vp121 (V119.keep Kc121 nin0) (by decide) (fun _ => ⟨congrArg Value.int (own_low_eq _ (own_nb _)).symm, rfl⟩)) hZ (hw _ (List.mem_of_getElem? (i := 17) rfl)) (hw _ (List.mem_of_getElem? (i := 16) rfl)) (by decide) (by decide)) (g := (mkF m 149 #[iv p0, iv p1, iv p2, iv p3, iv p4, rv b2, iv (4 : Int32), rv b107, rv bo121] [(.int (p1.toInt8.toInt32)), (.int (1 : Int32)), (.ref b107), (.ref bo121)])) rfl (by rw [hml]; rfl) (argsL := [(.ref bo121), (.ref b107), (.int (1 : Int32)), (.int (p1.toInt8.toInt32))]) (rest := []) (lenOf pd4 rfl) rfl (by show 2 * 0 + _ ≤ _; exact Nat.le_of_eq rfl) (hb hby at_149) (fun _ _ => ⟨rfl, hh126, (by decide : 3 + 0 ≤ _), (by decide : 12 + 0 ≤ _)⟩)
    dsimp only [Pt.U, Pt.locs, Pt.cells, Pt.slots] at X129 l129 y129 z129 st129 hQ129
    subst l129 y129 z129
    obtain ⟨rfl, N129q, hh129⟩ := hQ129
    have N129 := Fr.app N126 N129q
    obtain ⟨cl130, Ar130, q130, S130, M130, H130, G130⟩ := id ((((((V10.ext E107).other W110 (Nat.ne_of_lt (Nat.lt_of_lt_of_le V10.lt (Nat.le_of_eq g107.symm)))).other W113 (Nat.ne_of_lt (Nat.lt_of_lt_of_le V10.lt (Nat.le_of_eq g107.symm)))).other W116 (Nat.ne_of_lt (Nat.lt_of_lt_of_le V10.lt (Nat.le_of_eq g107.symm)))).other W119 (Nat.ne_of_lt (Nat.lt_of_lt_of_le V10.lt (Nat.le_of_eq g107.symm)))).keep Kc121 nin0)
    have hin130 : ¬ ((2 : Int32) < 0 ∨ cl130.slots.size ≤ ((2 : Int32)).toNatClampNeg) := inb_of S130 ⟨by decide, by decide⟩
    have hat130 : cl130.slots[((2 : Int32)).toNatClampNeg]? = some (.int (p2.toInt8.toInt32)) := H130.at hin130 rfl
    have pre131 : ∀ t, Steps p.tables e below (T129.setTop (mkF m 164 #[iv p0, iv p1, iv p2, iv p3, iv p4, rv b2, iv (4 : Int32), rv b107, rv bo121] [(.int (p2.toInt8.toInt32)), (.int (2 : Int32)), (.ref b107), (.ref bo121)])) t → Steps p.tables e below (s₁.setTop (entryFrame m #[(.int p0), (.int p1), (.int p2), (.int p3), (.int p4)] maxLocals)) t := by
      intro t kt
      refine pre128 _ ?_
      show Steps p.tables e below (T126.setTop (mkF m 149 #[iv p0, iv p1, iv p2, iv p3, iv p4, rv b2, iv (4 : Int32), rv b107, rv bo121] [(.int (p1.toInt8.toInt32)), (.int (1 : Int32)), (.ref b107), (.ref bo121)])) _
      refine st129 _ ?_
      show Steps p.tables e below (T129.setTop (mkF m 152 #[iv p0, iv p1, iv p2, iv p3, iv p4, rv b2, iv (4 : Int32), rv b107, rv bo121] [(.int (1 : Int32))])) _
      refine XS.ifNo X129.here hx rfl (hb hby at_152) rfl ((if0 _ _).trans (feq (by decide)).1) ?_
      show Steps p.tables e below (T129.setTop (mkF m 155 #[iv p0, iv p1, iv p2, iv p3, iv p4, rv b2, iv (4 : Int32), rv b107, rv bo121] [])) _
      refine XS.aload X129.here hx rfl (hb hby at_155) rfl rfl ?_
      show Steps p.tables e below (T129.setTop (mkF m 157 #[iv p0, iv p1, iv p2, iv p3, iv p4, rv b2, iv (4 : Int32), rv b107, rv bo121] [(.ref bo121)])) _
      refine XS.aload X129.here hx rfl (hb hby at_157) rfl rfl ?_
      show Steps p.tables e below (T129.setTop (mkF m 159 #[iv p0, iv p1, iv p2, iv p3, iv p4, rv b2, iv (4 : Int32), rv b107, rv bo121] [(.ref b107), (.ref bo121)])) _
      refine XS.iconst X129.here hx rfl (hb hby at_159) ?_
      show Steps p.tables e below (T129.setTop (mkF m 160 #[iv p0, iv p1, iv p2, iv p3, iv p4, rv b2, iv (4 : Int32), rv b107, rv bo121] [(.int (2 : Int32)), (.ref b107), (.ref bo121)])) _
      refine XS.aload X129.here hx rfl (hb hby at_160) rfl rfl ?_
      show Steps p.tables e below (T129.setTop (mkF m 162 #[iv p0, iv p1, iv p2, iv p3, iv p4, rv b2, iv (4 : Int32), rv b107, rv bo121] [(.ref b2), (.int (2 : Int32)), (.ref b107), (.ref bo121)])) _
      refine XS.iconst X129.here hx rfl (hb hby at_162) ?_
      show Steps p.tables e below (T129.setTop (mkF m 163 #[iv p0, iv p1, iv p2, iv p3, iv p4, rv b2, iv (4 : Int32), rv b107, rv bo121] [(.int (2 : Int32)), (.ref b2), (.int (2 : Int32)), (.ref b107), (.ref bo121)])) _
      refine X129.baloadBytes hx (j := (2 : Int32)) (v := (.int (p2.toInt8.toInt32))) (by rw [hh129]; exact Ar130.1) (State.isArrayOf_alike hZ.alike Ar130.2.1) Ar130.2.2 hin130 hat130 (g := (mkF m 163 #[iv p0, iv p1, iv p2, iv p3, iv p4, rv b2, iv (4 : Int32), rv b107, rv bo121] [(.int (2 : Int32)), (.ref b2), (.int (2 : Int32)), (.ref b107), (.ref bo121)])) rfl rfl (hb hby at_163) _ ?_
      exact kt
    obtain ⟨_, _, ⟨T132, L132, k132, n132⟩, -, X132, ⟨Lc132, hQ132, l132, y132, z132⟩, st132⟩ := Jvm.LawKit.callS X129 hx (y := (⟨"com/example/ereikoussa/ereikoussa/dns/DnsNameLowerCasePinLaw", "at", "([B[BIB)Z"⟩ : MethodName)) hown (mvT hZ (hw _ (List.mem_of_getElem? (i := 14) rfl))) (mvT hZ (hw _ (List.mem_of_getElem? (i := 15) rfl))) (mvT hZ (hw _ (List.mem_of_getElem? (i := 16) rfl))) (mvT hZ (hw _ (List.mem_of_getElem? (i := 17) rfl))) (by decide) (backOf (W := 0) (rm2 l Z a0 hw [] bo121 b107 (2 : Int32) (p2.toInt8.toInt32) k107 k107 (4 : Int32) [(.int (own_lowb (p0.toInt8.toInt32))), (.int (own_lowb (p1.toInt8.toInt32))), (.int (own_lowb (p2.toInt8.toInt32))), (.int (own_lowb (p3.toInt8.toInt32)))] [(.int (p0.toInt8.toInt32)), (.int (p1.toInt8.toInt32)), (.int (p2.toInt8.toInt32)), (.int (p3.toInt8.toInt32))] (.int (0 : Int32)) (.int (0 : Int32)) T121.heap n0 (Nat.le_trans Z0 K121.1) Vp121 (V119.keep Kc121 nin0) (by decide) (fun _ => ⟨congrArg Value.int (own_low_eq _ (own_nb _)).symm, rfl⟩)) hZ (hw _ (List.mem_of_getElem? (i := 17) rfl)) (hw _ (List.mem_of_getElem? (i := 16) rfl)) (by decide) (by decide)) (g := (mkF m 164 #[iv p0, iv p1, iv p2, iv p3, iv p4, rv b2, iv (4 : Int32), rv b107, rv bo121] [(.int (p2.toInt8.toInt32)), (.int (2 : Int32)), (.ref b107), (.ref bo121)])) rfl (by rw [hml]; rfl) (argsL := [(.ref bo121), (.ref b107), (.int (2 : Int32)), (.int (p2.toInt8.toInt32))]) (rest := []) (lenOf pd4 rfl) rfl (by show 2 * 0 + _ ≤ _; exact Nat.le_of_eq rfl) (hb hby at_164) (fun _ _ => ⟨rfl, hh129, (by decide : 3 + 0 ≤ _), (by decide : 12 + 0 ≤ _)⟩)
    dsimp only [Pt.U, Pt.locs, Pt.cells, Pt.slots] at X132 l132 y132 z132 st132 hQ132
    subst l132 y132 z132
    obtain ⟨rfl, N132q, hh132⟩ := hQ132
    have N132 := Fr.app N129 N132q
    obtain ⟨cl133, Ar133, q133, S133, M133, H133, G133⟩ := id ((((((V10.ext E107).other W110 (Nat.ne_of_lt (Nat.lt_of_lt_of_le V10.lt (Nat.le_of_eq g107.symm)))).other W113 (Nat.ne_of_lt (Nat.lt_of_lt_of_le V10.lt (Nat.le_of_eq g107.symm)))).other W116 (Nat.ne_of_lt (Nat.lt_of_lt_of_le V10.lt (Nat.le_of_eq g107.symm)))).other W119 (Nat.ne_of_lt (Nat.lt_of_lt_of_le V10.lt (Nat.le_of_eq g107.symm)))).keep Kc121 nin0)
    have hin133 : ¬ ((3 : Int32) < 0 ∨ cl133.slots.size ≤ ((3 : Int32)).toNatClampNeg) := inb_of S133 ⟨by decide, by decide⟩
    have hat133 : cl133.slots[((3 : Int32)).toNatClampNeg]? = some (.int (p3.toInt8.toInt32)) := H133.at hin133 rfl
    have pre134 : ∀ t, Steps p.tables e below (T132.setTop (mkF m 179 #[iv p0, iv p1, iv p2, iv p3, iv p4, rv b2, iv (4 : Int32), rv b107, rv bo121] [(.int (p3.toInt8.toInt32)), (.int (3 : Int32)), (.ref b107), (.ref bo121)])) t → Steps p.tables e below (s₁.setTop (entryFrame m #[(.int p0), (.int p1), (.int p2), (.int p3), (.int p4)] maxLocals)) t := by
      intro t kt
      refine pre131 _ ?_
      show Steps p.tables e below (T129.setTop (mkF m 164 #[iv p0, iv p1, iv p2, iv p3, iv p4, rv b2, iv (4 : Int32), rv b107, rv bo121] [(.int (p2.toInt8.toInt32)), (.int (2 : Int32)), (.ref b107), (.ref bo121)])) _
      refine st132 _ ?_
      show Steps p.tables e below (T132.setTop (mkF m 167 #[iv p0, iv p1, iv p2, iv p3, iv p4, rv b2, iv (4 : Int32), rv b107, rv bo121] [(.int (1 : Int32))])) _
      refine XS.ifNo X132.here hx rfl (hb hby at_167) rfl ((if0 _ _).trans (feq (by decide)).1) ?_
      show Steps p.tables e below (T132.setTop (mkF m 170 #[iv p0, iv p1, iv p2, iv p3, iv p4, rv b2, iv (4 : Int32), rv b107, rv bo121] [])) _
      refine XS.aload X132.here hx rfl (hb hby at_170) rfl rfl ?_
      show Steps p.tables e below (T132.setTop (mkF m 172 #[iv p0, iv p1, iv p2, iv p3, iv p4, rv b2, iv (4 : Int32), rv b107, rv bo121] [(.ref bo121)])) _
      refine XS.aload X132.here hx rfl (hb hby at_172) rfl rfl ?_
      show Steps p.tables e below (T132.setTop (mkF m 174 #[iv p0, iv p1, iv p2, iv p3, iv p4, rv b2, iv (4 : Int32), rv b107, rv bo121] [(.ref b107), (.ref bo121)])) _
      refine XS.iconst X132.here hx rfl (hb hby at_174) ?_
      show Steps p.tables e below (T132.setTop (mkF m 175 #[iv p0, iv p1, iv p2, iv p3, iv p4, rv b2, iv (4 : Int32), rv b107, rv bo121] [(.int (3 : Int32)), (.ref b107), (.ref bo121)])) _
      refine XS.aload X132.here hx rfl (hb hby at_175) rfl rfl ?_
      show Steps p.tables e below (T132.setTop (mkF m 177 #[iv p0, iv p1, iv p2, iv p3, iv p4, rv b2, iv (4 : Int32), rv b107, rv bo121] [(.ref b2), (.int (3 : Int32)), (.ref b107), (.ref bo121)])) _
      refine XS.iconst X132.here hx rfl (hb hby at_177) ?_
      show Steps p.tables e below (T132.setTop (mkF m 178 #[iv p0, iv p1, iv p2, iv p3, iv p4, rv b2, iv (4 : Int32), rv b107, rv bo121] [(.int (3 : Int32)), (.ref b2), (.int (3 : Int32)), (.ref b107), (.ref bo121)])) _
      refine X132.baloadBytes hx (j := (3 : Int32)) (v := (.int (p3.toInt8.toInt32))) (by rw [hh132]; exact Ar133.1) (State.isArrayOf_alike hZ.alike Ar133.2.1) Ar133.2.2 hin133 hat133 (g := (mkF m 178 #[iv p0, iv p1, iv p2, iv p3, iv p4, rv b2, iv (4 : Int32), rv b107, rv bo121] [(.int (3 : Int32)), (.ref b2), (.int (3 : Int32)), (.ref b107), (.ref bo121)])) rfl rfl (hb hby at_178) _ ?_
      exact kt
    obtain ⟨_, _, ⟨T135, L135, k135, n135⟩, -, X135, ⟨Lc135, hQ135, l135, y135, z135⟩, st135⟩ := Jvm.LawKit.callS X132 hx (y := (⟨"com/example/ereikoussa/ereikoussa/dns/DnsNameLowerCasePinLaw", "at", "([B[BIB)Z"⟩ : MethodName)) hown (mvT hZ (hw _ (List.mem_of_getElem? (i := 14) rfl))) (mvT hZ (hw _ (List.mem_of_getElem? (i := 15) rfl))) (mvT hZ (hw _ (List.mem_of_getElem? (i := 16) rfl))) (mvT hZ (hw _ (List.mem_of_getElem? (i := 17) rfl))) (by decide) (backOf (W := 0) (rm2 l Z a0 hw [] bo121 b107 (3 : Int32) (p3.toInt8.toInt32) k107 k107 (4 : Int32) [(.int (own_lowb (p0.toInt8.toInt32))), (.int (own_lowb (p1.toInt8.toInt32))), (.int (own_lowb (p2.toInt8.toInt32))), (.int (own_lowb (p3.toInt8.toInt32)))] [(.int (p0.toInt8.toInt32)), (.int (p1.toInt8.toInt32)), (.int (p2.toInt8.toInt32)), (.int (p3.toInt8.toInt32))] (.int (0 : Int32)) (.int (0 : Int32)) T121.heap n0 (Nat.le_trans Z0 K121.1) Vp121 (V119.keep Kc121 nin0) (by decide) (fun _ => ⟨congrArg Value.int (own_low_eq _ (own_nb _)).symm, rfl⟩)) hZ (hw _ (List.mem_of_getElem? (i := 17) rfl)) (hw _ (List.mem_of_getElem? (i := 16) rfl)) (by decide) (by decide)) (g := (mkF m 179 #[iv p0, iv p1, iv p2, iv p3, iv p4, rv b2, iv (4 : Int32), rv b107, rv bo121] [(.int (p3.toInt8.toInt32)), (.int (3 : Int32)), (.ref b107), (.ref bo121)])) rfl (by rw [hml]; rfl) (argsL := [(.ref bo121), (.ref b107), (.int (3 : Int32)), (.int (p3.toInt8.toInt32))]) (rest := []) (lenOf pd4 rfl) rfl (by show 2 * 0 + _ ≤ _; exact Nat.le_of_eq rfl) (hb hby at_179) (fun _ _ => ⟨rfl, hh132, (by decide : 3 + 0 ≤ _), (by decide : 12 + 0 ≤ _)⟩)
    dsimp only [Pt.U, Pt.locs, Pt.cells, Pt.slots] at X135 l135 y135 z135 st135 hQ135
    subst l135 y135 z135
    obtain ⟨rfl, N135q, hh135⟩ := hQ135
    have N135 := Fr.app N132 N135q
    have pre136 : ∀ t, Steps p.tables e below (T135.setTop (mkF m 190 #[iv p0, iv p1, iv p2, iv p3, iv p4, rv b2, iv (4 : Int32), rv b107, rv bo121] [(.int (1 : Int32))])) t → Steps p.tables e below (s₁.setTop (entryFrame m #[(.int p0), (.int p1), (.int p2), (.int p3), (.int p4)] maxLocals)) t := by
      intro t kt
      refine pre134 _ ?_
      show Steps p.tables e below (T132.setTop (mkF m 179 #[iv p0, iv p1, iv p2, iv p3, iv p4, rv b2, iv (4 : Int32), rv b107, rv bo121] [(.int (p3.toInt8.toInt32)), (.int (3 : Int32)), (.ref b107), (.ref bo121)])) _
      refine st135 _ ?_
      show Steps p.tables e below (T135.setTop (mkF m 182 #[iv p0, iv p1, iv p2, iv p3, iv p4, rv b2, iv (4 : Int32), rv b107, rv bo121] [(.int (1 : Int32))])) _
      refine XS.ifNo X135.here hx rfl (hb hby at_182) rfl ((if0 _ _).trans (feq (by decide)).1) ?_
      show Steps p.tables e below (T135.setTop (mkF m 185 #[iv p0, iv p1, iv p2, iv p3, iv p4, rv b2, iv (4 : Int32), rv b107, rv bo121] [])) _
      refine XS.iconst X135.here hx rfl (hb hby at_185) ?_
      show Steps p.tables e below (T135.setTop (mkF m 186 #[iv p0, iv p1, iv p2, iv p3, iv p4, rv b2, iv (4 : Int32), rv b107, rv bo121] [(.int (1 : Int32))])) _
      refine XS.goto X135.here hx rfl (pc0 := 186) (pc' := 190) rfl (hb hby at_186) (by decide) (by decide) ?_
      exact kt
    obtain ⟨fs, hr, hrun, hended, hW, hsame⟩ := X135.leave (v := some (.int (1 : Int32))) (fun h => by rw [Bd.returns] at h; cases h)
    refine ⟨_, _, pre136 _ ?_, hrun, hended, _, _, rfl, ?_, ⟨_, rfl⟩, hW, hsame.mono (by decide) (by decide)⟩
    · show Steps p.tables e below (T135.setTop (mkF m 190 #[iv p0, iv p1, iv p2, iv p3, iv p4, rv b2, iv (4 : Int32), rv b107, rv bo121] [(.int (1 : Int32))])) _
      exact retN X135 hx (t := .boolean) Bd.returns (by simp) (hb hby at_190) hr
    · show Q0 Z p0 p1 p2 p3 p4 h0 n0 _ T135.heap _
      rw [hh135]
      exact ⟨rfl, N135⟩
set_option maxRecDepth 65536 in
set_option maxHeartbeats 40000000 in
theorem comes_1 {Post : Tables → Env → Array Value → State → Outcome → State → Prop} (hpost : ∀ tb e args s v u, (limb_1_1.after args s (.returned v) u = true ∧ limb_1_2.after args s (.returned v) u = true ∧ True) → FrameEnd s (.returned v) u (Jvm.fieldLocs frame_1_writes args s ++ Jvm.arrayLocs frame_1_arrays args s ++ Jvm.staticLocs frame_1_statics s) 16 128 → Post tb e args s (.returned v) u) :
    ArmFor flags0 classFile x code maxLocals ret World_1 tables_1 room_1 Calls_1 rest_1 Pre_1 Post := by
  intro l hfl _ _ p e ha hc hk s m args below hf hA hF happ hP
  obtain ⟨hcalls, hrest, hpre⟩ := hP
  obtain ⟨-, -, -, hnamed, -, -, -, hat⟩ := (Spec.applies_iff hf).mp happ
  obtain ⟨hg, hn⟩ := and_e (Cond.before_iff.mp (show (Jvm.Cond.and given_1 narrow_1).before args s = true from hpre))
  obtain ⟨gg1, gg2⟩ := and_e hg
  obtain ⟨gg3, gg4⟩ := and_e gg2
  obtain ⟨gg5, gg6⟩ := and_e gg4
  obtain ⟨gg7, gg8⟩ := and_e gg6
  obtain ⟨gg9, gg10⟩ := and_e gg8
  obtain ⟨w0, w1, w2, w3, w4, rfl⟩ : ∃ w0 w1 w2 w3 w4 : Value, args = #[w0, w1, w2, w3, w4] := by
    have hs : args.size = 5 := by simpa [Cond.value, given_1] using gg1
    obtain ⟨L⟩ := args
    match L, hs with
    | [w0, w1, w2, w3, w4], _ => exact ⟨w0, w1, w2, w3, w4, rfl⟩
  have hw := fun d (hd : d ∈ tables_1) => atoms_spec (ws := Jvm.Cond.code x code maxLocals ret :: tables_1) hat d (List.mem_cons_of_mem _ hd)
  have hfit : Fit s := fun {y c} hc i hi => by
    obtain ⟨ha, rfl⟩ := Array.getElem?_eq_some_iff.mp hc
    have q := List.all_eq_true.mp ((Array.all_eq_true_iff_forall_mem.mp hF) _ (Array.getElem_mem ha)) i (List.mem_range.mpr hi)
    simpa [Array.getElem?_eq_getElem hi] using q
  obtain ⟨i0, ei0⟩ := is_v gg3
  obtain rfl : w0 = (.int i0) := Option.some.inj ei0
  obtain ⟨i1, ei1⟩ := is_v gg5
  obtain rfl : w1 = (.int i1) := Option.some.inj ei1
  obtain ⟨i2, ei2⟩ := is_v gg7
  obtain rfl : w2 = (.int i2) := Option.some.inj ei2
  obtain ⟨i3, ei3⟩ := is_v gg9
  obtain rfl : w3 = (.int i3) := Option.some.inj ei3
  obtain ⟨i4, ei4⟩ := is_v gg10
  obtain rfl : w4 = (.int i4) := Option.some.inj ei4
  obtain ⟨n, o, h1, h2, h3, _, L, rfl, ⟨rfl, N⟩, hq⟩ := rm0 l s _ hw tables_1 i0 i1 i2 i3 i4 s.heap s.heap.size (Nat.le_refl _) p e ha hc hk s m _ below hf ((Spec.applies_iff_loose hf).mp happ).1 ⟨rfl, State.Warmed39.refl s, rfl⟩ trivial
  refine ⟨n, _, h1, h2, h3, hpost _ _ _ _ _ _ ⟨Cond.after_iff.mpr rfl, Cond.after_iff.mpr (eq_i res_at (Term.int_eval (1)) rfl), trivial⟩ ⟨hq.1, hq.2.1, (hq.2.2.sift fun y hy => Or.inr (N y hy)).mono (by decide) (by decide)⟩⟩
theorem main_1_1 : Claimed_1_1 := comes_1 fun _ _ _ _ _ _ h hF => ⟨h.1, hF⟩
theorem main_1_2 : Claimed_1_2 := comes_1 fun _ _ _ _ _ _ h hF => ⟨h.2.1, hF⟩
end Jvm.Pilot.@@N@@
namespace Jvm.Pilot.@@N@@
open Jvm Jvm.ClassFile Sem Op Lib Jvm.Free Jvm.Stand Jvm.Pilot.@@N@@.Jvm.D
/-! MADE BY PROGRAM (witnessworld.py) out of the Statement's table words and the real class files: 9 classes; the members and pool entries that the words name. The judged class is class 1, her method 1. -/
namespace start1
open Jvm.ClassFile
def u (s : String) : CpInfo := .utf8 (stringToUtf16 s)
/-- a pool by its gaps: so many unusable entries, then the entry; so many at the end -/
def gap : Nat → List CpInfo → List CpInfo
  | 0, r => r
  | n + 1, r => .unusable :: gap n r
def poolList (es : List (Nat × CpInfo)) (last : Nat) : List CpInfo := es.foldr (fun e r => gap e.1 (e.2 :: r)) (gap last [])
def pool (es : List (Nat × CpInfo)) (last : Nat) : Array CpInfo := ⟨poolList es last⟩
def fileOf (pool : Array CpInfo) (this : Nat) (attrs : Array Attribute := #[]) (ms : Array MethodInfo := #[]) (fl : Nat := 33) (sup : Nat := 0) (ifs : Array Nat := #[]) (fds : Array FieldInfo := #[]) : ClassFile where
  minorVersion := 0
  majorVersion := 65
  constantPool := pool
  accessFlags := fl
  thisClass := this
  superClass := sup
  interfaces := ifs
  fields := fds
  methods := ms
  attributes := attrs
def plain (name : String) (sup : Option ClassId) : Class where
  name := name
  kind := .ordinary
  loader := none
  accessFlags := 33
  super := sup
  interfaces := #[]
  cf := none
  fields := #[]
  methods := #[]
  instanceTypes := #[]
  staticTypes := #[]
  resolved := #[]
  callSites := []
  init := .initialized
  statics := none
  mirror := none

def pool0 : Array CpInfo := pool [(5, u "<init>"), (0, u "()V"), (1, .class_ 10), (1, u "java/lang/Object"), (85, u "clone"), (0, u "()Ljava/lang/Object;")] 26

def k0m0 : Method := { name := "<init>", desc := "()V", sig := { parameters := [], returnType := none }, accessFlags := 1, code := none }
def k0m1 : Method := { name := "clone", desc := "()Ljava/lang/Object;", sig := { parameters := [], returnType := some (.object "java/lang/Object") }, accessFlags := 260, code := none }
/-- java/lang/Object -/
def k0 : Class := { plain "java/lang/Object" none with
  accessFlags := 33
  interfaces := #[]
  cf := some (fileOf pool0 8 #[] #[{ accessFlags := 1, nameIndex := 5, descriptorIndex := 6, attributes := #[] }, { accessFlags := 260, nameIndex := 96, descriptorIndex := 97, attributes := #[] }] 33 0 #[] #[])
  fields := #[]
  methods := #[k0m0, k0m1]
  instanceTypes := #[]
  staticTypes := #[]
  resolved := Array.replicate 124 none
  statics := none }

def pool1 : Array CpInfo := pool [(2, .class_ 4), (1, u "java/lang/Object"), (0, u "<init>"), (0, u "()V"), (0, .methodref 8 9), (0, .class_ 10), (0, .nameAndType 11 12), (0, u "com/example/ereikoussa/ereikoussa/dns/DnsName"), (0, u "lowerCase"), (0, u "([B)[B"), (0, .methodref 14 15), (0, .class_ 16), (0, .nameAndType 17 18), (0, u "com/example/ereikoussa/ereikoussa/dns/DnsNameLowerCasePinLaw"), (0, u "at"), (0, u "([B[BIB)Z"), (0, .methodref 14 20), (0, .nameAndType 21 22), (0, u "lower"), (0, u "(B)B"), (2, u "law"), (0, u "(IIIII)Z")] 5

def k1m0 : Method := { name := "<init>", desc := "()V", sig := { parameters := [], returnType := none }, accessFlags := 2, code := none }
def k1c1 : Code := { maxStack := 5, maxLocals := 9, code := code, exceptionTable := #[], attributes := #[] }
def k1m1 : Method := { name := "law", desc := "(IIIII)Z", sig := { parameters := [.int, .int, .int, .int, .int], returnType := some .boolean }, accessFlags := 9, code := some k1c1 }
def k1c2 : Code := { maxStack := 2, maxLocals := 4, code := method_3_code, exceptionTable := #[], attributes := #[] }
def k1m2 : Method := { name := "at", desc := "([B[BIB)Z", sig := { parameters := [(.array .byte), (.array .byte), .int, .byte], returnType := some .boolean }, accessFlags := 10, code := some k1c2 }
def k1c3 : Code := { maxStack := 2, maxLocals := 2, code := method_4_code, exceptionTable := #[], attributes := #[] }
def k1m3 : Method := { name := "lower", desc := "(B)B", sig := { parameters := [.byte], returnType := some .byte }, accessFlags := 10, code := some k1c3 }
/-- com/example/ereikoussa/ereikoussa/dns/DnsNameLowerCasePinLaw -/
def k1 : Class := { plain "com/example/ereikoussa/ereikoussa/dns/DnsNameLowerCasePinLaw" (some 0) with
  accessFlags := 49
  interfaces := #[]
  cf := some (fileOf pool1 14 #[] #[{ accessFlags := 2, nameIndex := 5, descriptorIndex := 6, attributes := #[] }, { accessFlags := 9, nameIndex := 25, descriptorIndex := 26, attributes := #[] }, { accessFlags := 10, nameIndex := 17, descriptorIndex := 18, attributes := #[] }, { accessFlags := 10, nameIndex := 21, descriptorIndex := 22, attributes := #[] }] 49 2 #[] #[])
  fields := #[]
  methods := #[k1m0, k1m1, k1m2, k1m3]
  instanceTypes := #[]
  staticTypes := #[]
  resolved := Array.replicate 32 none
  statics := none }

def pool2 : Array CpInfo := pool [(2, .class_ 4), (1, u "java/lang/Object"), (3, .class_ 10), (1, u "com/example/ereikoussa/ereikoussa/dns/DnsName"), (0, u "labels"), (0, u "Ljava/util/List;"), (18, u "()Ljava/lang/Object;"), (0, .class_ 33), (0, u "[B"), (9, .methodref 32 44), (0, .nameAndType 45 31), (0, u "clone"), (17, u "ROOT"), (0, u "Lcom/example/ereikoussa/ereikoussa/dns/DnsName;"), (132, u "lowerCase"), (0, u "([B)[B"), (33, u "MAX_LABEL_BYTES"), (0, u "I"), (2, u "MAX_WIRE_BYTES")] 59

def k2c0 : Code := { maxStack := 4, maxLocals := 3, code := prog_15_method_12_code, exceptionTable := #[], attributes := #[] }
def k2m0 : Method := { name := "lowerCase", desc := "([B)[B", sig := { parameters := [(.array .byte)], returnType := some (.array .byte) }, accessFlags := 8, code := some k2c0 }
/-- com/example/ereikoussa/ereikoussa/dns/DnsName -/
def k2 : Class := { plain "com/example/ereikoussa/ereikoussa/dns/DnsName" (some 0) with
  accessFlags := 48
  interfaces := #[]
  cf := some (fileOf pool2 8 #[] #[{ accessFlags := 8, nameIndex := 197, descriptorIndex := 198, attributes := #[] }] 48 2 #[] #[{ accessFlags := 24, nameIndex := 63, descriptorIndex := 64, attributes := #[] }, { accessFlags := 24, nameIndex := 232, descriptorIndex := 233, attributes := #[] }, { accessFlags := 24, nameIndex := 236, descriptorIndex := 233, attributes := #[] }, { accessFlags := 18, nameIndex := 11, descriptorIndex := 12, attributes := #[] }])
  fields := #[{ name := "ROOT", type := (.object "com/example/ereikoussa/ereikoussa/dns/DnsName"), accessFlags := 24, slot := 0, constantValue := 0 }, { name := "MAX_LABEL_BYTES", type := .int, accessFlags := 24, slot := 1, constantValue := 0 }, { name := "MAX_WIRE_BYTES", type := .int, accessFlags := 24, slot := 2, constantValue := 0 }, { name := "labels", type := (.object "java/util/List"), accessFlags := 18, slot := 0, constantValue := 0 }]
  methods := #[k2m0]
  instanceTypes := #[(.object "java/util/List")]
  staticTypes := #[(.object "com/example/ereikoussa/ereikoussa/dns/DnsName"), .int, .int]
  resolved := Array.replicate 296 none
  statics := none }

def pool3 : Array CpInfo := pool [(1, .class_ 2), (0, u "java/lang/Cloneable"), (0, .class_ 4), (0, u "java/lang/Object")] 2

/-- java/lang/Cloneable -/
def k3 : Class := { plain "java/lang/Cloneable" (some 0) with
  accessFlags := 1537
  interfaces := #[]
  cf := some (fileOf pool3 1 #[] #[] 1537 3 #[] #[])
  fields := #[]
  methods := #[]
  instanceTypes := #[]
  staticTypes := #[]
  resolved := Array.replicate 7 none
  statics := none }

def pool4 : Array CpInfo := pool [(1, u "java/io/Serializable"), (0, .class_ 1), (0, u "java/lang/Object"), (0, .class_ 3)] 3

/-- java/io/Serializable -/
def k4 : Class := { plain "java/io/Serializable" (some 0) with
  accessFlags := 1537
  interfaces := #[]
  cf := some (fileOf pool4 2 #[] #[] 1537 4 #[] #[])
  fields := #[]
  methods := #[]
  instanceTypes := #[]
  staticTypes := #[]
  resolved := Array.replicate 8 none
  statics := none }

/-- the primitive byte -/
def k5 : Class := { plain "byte" none with kind := .primitive 'B', accessFlags := 0x411 }
/-- [B -/
def k6 : Class := { plain "[B" (some 0) with kind := .array 5 .byte, interfaces := #[3, 4], accessFlags := 1041 }

/-- the primitive int -/
def k7 : Class := { plain "int" none with kind := .primitive 'I', accessFlags := 0x411 }
/-- [I -/
def k8 : Class := { plain "[I" (some 0) with kind := .array 7 .int, interfaces := #[3, 4], accessFlags := 1041 }

def heap : Heap := #[]
def classes : Array Class := #[k0, k1, k2, k3, k4, k5, k6, k7, k8]
def interned : List (Array UInt16 × Addr) := []
def slotsUsed : Nat := 0
def theMethod : MethodId := ⟨1, 1⟩
def args0 : Array Value := #[.int 5, .int 6, .int 7, .int 8, .int 3]
def aboutOver (below : List Frame) : State where
  vm := { classes := classes, interned := interned.toArray }
  heap := heap
  slotsUsed := slotsUsed
  threads := #[{ frames := .invoking theMethod args0 :: below }]
def below0 : List Frame := [.native { method := ⟨0, 0⟩, args := #[] }]
def about1 : State := aboutOver below0
def p0 : Program := .bare "" "" ""
def e0 : Env := launch0.env 0 0 0
theorem w_frames : about1.frames = Frame.invoking theMethod args0 :: below0 := rfl
set_option maxRecDepth 65536 in
theorem w_args : argsFit about1.vm theMethod args0 = true := by decide +kernel
set_option maxRecDepth 65536 in
theorem w_heap : heapFits about1 = true := by decide +kernel
set_option maxRecDepth 65536 in
theorem w_runnable : about1.curStatus? = some .runnable := by decide +kernel
set_option maxRecDepth 65536 in
theorem w_alone : about1.alone = true := by decide +kernel
set_option maxRecDepth 65536 in
theorem w_named : about1.methodNamed? x = some theMethod := by decide +kernel
set_option maxRecDepth 65536 in
theorem w_hears : about1.hears theMethod below0 = true := by decide +kernel
set_option maxRecDepth 65536 in
theorem w_ripe : about1.ripe theMethod args0 below0 = true := by decide +kernel
theorem w_running : about1.status = .running := rfl
set_option maxRecDepth 65536 in
theorem w_room : about1.hasRoom e0.platform room_1 = true :=
  launch0.hasRoom_least _ room_1 (by decide +kernel) (by decide +kernel) (by decide +kernel) (by decide +kernel) (by decide +kernel) (by decide +kernel)
theorem allAtoms_all (ts : List Jvm.Cond) (a : Array Jvm.Value) (st : Jvm.State) : (allAtoms ts).before a st = ts.all (fun c => c.before a st) := by
  induction ts with
  | nil => rfl
  | cons c t ih =>
    show (Jvm.Cond.and c (allAtoms t)).before a st = _
    rw [Jvm.Cond.before_and, ih, List.all_cons]
def words1 : List Jvm.Cond := Jvm.Cond.code x code maxLocals ret :: tables_1
/-- a 'code' word, met by the world's own term for the bytes: nothing is compared byte by byte -/
theorem code_word {y : MethodName} {bytes : ByteArray} {mx : Nat} {rt : Option FieldType} {a : Array Value} {s : State} {m : MethodId} {meth : Method} {c : Code} (h1 : s.methodNamed? y = some m) (h2 : s.vm.method? m = some meth) (h3 : meth.code = some c) (h4 : c.code = bytes)
    (h5 : (c.maxLocals == mx && c.exceptionTable.isEmpty && decide (c.maxStack ≤ mostOperands) && decide (meth.sig.returnType = rt) && !meth.locks && decide (parseMethodDescriptor y.desc = some meth.sig)) = true) : (Jvm.Cond.code y bytes mx rt).before a s = true := by
  simp only [Bool.and_eq_true, beq_iff_eq, Bool.not_eq_true', decide_eq_true_eq] at h5
  obtain ⟨⟨⟨⟨⟨g1, g2⟩, g3⟩, g4⟩, g5⟩, g6⟩ := h5
  simp [Cond.before, Cond.holds, Cond.value, h1, h2, h3, h4, g1, g2, g3, g4, g5, g6]
def isCode : Jvm.Cond → Bool
  | .code _ _ _ _ => true
  | _ => false
theorem all_split {L : List Jvm.Cond} {P : Jvm.Cond → Bool} (h1 : L.all (fun c => isCode c || P c) = true) (h2 : ∀ c ∈ L.filter isCode, P c = true) : L.all P = true := by
  refine List.all_eq_true.mpr fun c hc => ?_
  have h := List.all_eq_true.mp h1 c hc
  rcases Bool.eq_false_or_eq_true (isCode c) with hi | hi
  · exact h2 c (List.mem_filter.mpr ⟨hc, hi⟩)
  · simpa [hi] using h
set_option maxRecDepth 65536 in
theorem w_c0 : (Jvm.Cond.code x code maxLocals ret).before args0 about1 = true := code_word (m := ⟨1, 1⟩) (meth := k1m1) (c := k1c1) (by decide +kernel) rfl rfl rfl (by decide +kernel)
set_option maxRecDepth 65536 in
theorem w_c1 : (Jvm.Cond.code ({ cls := "com/example/ereikoussa/ereikoussa/dns/DnsName", name := "lowerCase", desc := "([B)[B" } : Jvm.MethodName) prog_15_method_12_code (3 : Nat) (Option.some (Jvm.ClassFile.FieldType.array Jvm.ClassFile.FieldType.byte))).before args0 about1 = true := code_word (m := ⟨2, 0⟩) (meth := k2m0) (c := k2c0) (by decide +kernel) rfl rfl rfl (by decide +kernel)
set_option maxRecDepth 65536 in
theorem w_c2 : (Jvm.Cond.code ({ cls := "com/example/ereikoussa/ereikoussa/dns/DnsNameLowerCasePinLaw", name := "at", desc := "([B[BIB)Z" } : Jvm.MethodName) method_3_code (4 : Nat) (Option.some Jvm.ClassFile.FieldType.boolean)).before args0 about1 = true := code_word (m := ⟨1, 2⟩) (meth := k1m2) (c := k1c2) (by decide +kernel) rfl rfl rfl (by decide +kernel)
set_option maxRecDepth 65536 in
theorem w_c3 : (Jvm.Cond.code ({ cls := "com/example/ereikoussa/ereikoussa/dns/DnsNameLowerCasePinLaw", name := "lower", desc := "(B)B" } : Jvm.MethodName) method_4_code (2 : Nat) (Option.some Jvm.ClassFile.FieldType.byte)).before args0 about1 = true := code_word (m := ⟨1, 3⟩) (meth := k1m3) (c := k1c3) (by decide +kernel) rfl rfl rfl (by decide +kernel)
def codes1 : List Jvm.Cond := [Jvm.Cond.code x code maxLocals ret, Jvm.Cond.code ({ cls := "com/example/ereikoussa/ereikoussa/dns/DnsName", name := "lowerCase", desc := "([B)[B" } : Jvm.MethodName) prog_15_method_12_code (3 : Nat) (Option.some (Jvm.ClassFile.FieldType.array Jvm.ClassFile.FieldType.byte)), Jvm.Cond.code ({ cls := "com/example/ereikoussa/ereikoussa/dns/DnsNameLowerCasePinLaw", name := "at", desc := "([B[BIB)Z" } : Jvm.MethodName) method_3_code (4 : Nat) (Option.some Jvm.ClassFile.FieldType.boolean), Jvm.Cond.code ({ cls := "com/example/ereikoussa/ereikoussa/dns/DnsNameLowerCasePinLaw", name := "lower", desc := "(B)B" } : Jvm.MethodName) method_4_code (2 : Nat) (Option.some Jvm.ClassFile.FieldType.byte)]
set_option maxRecDepth 65536 in
theorem codes_eq : words1.filter isCode = codes1 := rfl
theorem w_codes : ∀ c ∈ words1.filter isCode, c.before args0 about1 = true := by
  rw [codes_eq]
  intro c hc
  simp only [codes1, List.mem_cons, List.not_mem_nil, or_false] at hc
  rcases hc with rfl | rfl | rfl | rfl
  · exact w_c0
  · exact w_c1
  · exact w_c2
  · exact w_c3
set_option maxRecDepth 65536 in
theorem w_t1 : words1.all (fun c => isCode c || c.before args0 about1) = true := by decide +kernel
theorem w_tables : (allAtoms (Jvm.Cond.code x code maxLocals ret :: tables_1)).before args0 about1 = true := by
  rw [allAtoms_all]
  show words1.all (fun c => c.before args0 about1) = true
  refine all_split ?_ w_codes
  rw [w_t1]
set_option maxRecDepth 65536 in
theorem w_case : (Jvm.Cond.and given_1 narrow_1).before args0 about1 = true := by decide +kernel
theorem w_applies : (headSpec (Jvm.Cond.code x code maxLocals ret :: tables_1) room_1).applies x e0.platform about1 = true :=
  (Spec.applies_iff w_frames).mpr ⟨w_running, w_runnable, w_alone, w_named, w_hears, w_ripe, w_room, w_tables⟩
theorem atStart : AtStart classFile x code maxLocals ret World_1 tables_1 room_1 Calls_1 rest_1 Pre_1 launch0 p0 e0 about1 theMethod args0 below0 :=
  ⟨lists_1, trivial, launch0.admits_env _ _ _, launch0.least_env, fairChoices_fair.cas, fairChoices_fair.clock, w_frames, w_args, w_heap, w_applies, trivial, trivial, w_case⟩
end start1
theorem witness_1 : WitnessClaimed_1 := ⟨start1.p0, start1.e0, start1.about1, start1.theMethod, start1.args0, start1.below0, start1.atStart⟩
end Jvm.Pilot.@@N@@
