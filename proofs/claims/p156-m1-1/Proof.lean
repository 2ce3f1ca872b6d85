import JvmDerived
import JvmDerived.Pilot.@@N@@Statement
import JvmDerived.Pilot.@@N@@Code
set_option linter.unusedVariables false
set_option linter.unusedSimpArgs false
namespace Jvm.RoadKit
open Sem ClassFile Op Lib Jvm.Stand Jvm.Free Jvm.LawKit
section New
variable {p : Program} {l : Launch} {e : Env} {R : Room} {s : State} {m : MethodId} {args : Array Value} {below : List Frame} {meth : Method} {c : Code} {T : State} {locs : List Loc} {cells slots : Nat}
theorem retI (X : Stand p l e R s m args below meth c T locs cells slots) (hx : p.tables.exec = Jvm.exec) {pc : Nat} {Ls : Array Slot} {z : Int32} {rest : List Value} (hret : meth.sig.returnType = some .int) (hd : decode c.code pc = .ok (.ireturn, 1)) {fs : List Frame}
    (hl : ∀ (f : JFrame) (acts : List Action), f.method = m → f.locked = none → f.entered = [] → (doReturn e (T.setTop f) acts (some (.int z))).1 = T.setFrames fs) : Steps p.tables e below (T.setTop (mkF m pc Ls (.int z :: rest))) (T.setFrames fs) := by
  have hm' : T.vm.method? m = some meth := X.method'
  have hn : narrow .int (.int z) = .int z := rfl
  show Steps p.tables e below (T.setTop { method := m, pc := pc, locals := Ls, stack := _ :: rest, locked := none }) _
  jvm_step X.here [X.here.top, hx, hd, hm', hret, hn]
  first | (intro acts; rw [hl _ acts rfl rfl rfl]) | rw [hl _ _ rfl rfl rfl]
  exact Steps.refl _
end New
end Jvm.RoadKit

namespace Jvm.Pilot.@@N@@
open Jvm Jvm.ClassFile Sem Op Lib Jvm.Free Jvm.Stand Jvm.LawKit Jvm.RoadKit Bundle Jvm.Pilot.@@N@@.Jvm.D
theorem pn0 : plainName "com/example/bytewright/bytewright/grid/ObjectStarts" = true := by first | (simp [plainName, overriddenIn]; done) | decide +kernel
theorem d1_0 : decode prog_53_method_1_code 0 = .ok (.aload_n 0, 1) := by decide +kernel
theorem d1_1 : decode prog_53_method_1_code 1 = .ok (.invokespecial 1, 3) := by decide +kernel
theorem d1_4 : decode prog_53_method_1_code 4 = .ok (.aload_n 0, 1) := by decide +kernel
theorem d1_5 : decode prog_53_method_1_code 5 = .ok (.bipush 16, 2) := by decide +kernel
theorem d1_7 : decode prog_53_method_1_code 7 = .ok (.newarray .int, 2) := by decide +kernel
theorem d1_9 : decode prog_53_method_1_code 9 = .ok (.putfield 7, 3) := by decide +kernel
theorem d1_12 : decode prog_53_method_1_code 12 = .ok (.return_, 1) := by decide +kernel
theorem ef_1 (m : MethodId) (x0 : Addr) : entryFrame m #[(.ref x0)] 1 = mkF m 0 #[.val (.ref x0)] [] := by first | (simp [entryFrame, mkF, argsToLocals, Value.category]; done) | rfl
def Q1 (Z : State) (r0 : Addr) (h0 : Heap) (n0 : Nat) (v : Option Value) (h : Heap) (L : List Loc) : Prop := ∃ b kc, v = none ∧ Fr n0 L ∧ Keep h0 h [r0] ∧ h0.size ≤ b ∧ Fld Z h r0 "com/example/bytewright/bytewright/grid/ObjectStarts" "offsets" "[I" (.ref b) ∧ Fld Z h r0 "com/example/bytewright/bytewright/grid/ObjectStarts" "count" "I" (.int (0 : Int32)) ∧ Arv Z h b kc .int (16 : Int32) [(.int (0 : Int32)), (.int (0 : Int32)), (.int (0 : Int32)), (.int (0 : Int32)), (.int (0 : Int32)), (.int (0 : Int32)), (.int (0 : Int32)), (.int (0 : Int32)), (.int (0 : Int32)), (.int (0 : Int32)), (.int (0 : Int32)), (.int (0 : Int32)), (.int (0 : Int32)), (.int (0 : Int32)), (.int (0 : Int32)), (.int (0 : Int32))] (.int (0 : Int32))
set_option maxRecDepth 65536 in
set_option maxHeartbeats 40000000 in
theorem rm1 (l : Launch) (Z : State) (a0 : Array Value) (hw : ∀ d ∈ tables_1, d.before a0 Z = true) (ws : List Jvm.Cond) (r0 : Addr) (h0 : Heap) (n0 : Nat) (Z0 : n0 ≤ h0.size) (F_offsets_r0 : Fld Z h0 r0 "com/example/bytewright/bytewright/grid/ObjectStarts" "offsets" "[I" .null) (F_count_r0 : Fld Z h0 r0 "com/example/bytewright/bytewright/grid/ObjectStarts" "count" "I" (.int (0 : Int32))) (E_r0 : Exa Z h0 r0 "com/example/bytewright/bytewright/grid/ObjectStarts") (g_r0 : n0 ≤ r0) :
    MetFree l (⟨"com/example/bytewright/bytewright/grid/ObjectStarts", "<init>", "()V"⟩ : MethodName) (head1 (Jvm.Cond.code (⟨"com/example/bytewright/bytewright/grid/ObjectStarts", "<init>", "()V"⟩ : MethodName) prog_53_method_1_code 1 none :: ws) ({ frames := 1, cells := 1, slots := 16, locals := 12 } : Room)) (fun a U => a = #[(.ref r0)] ∧ Z.Warmed39 U.vm ∧ U.heap = h0) (fun _ _ _ _ _ => True) (fun _ U o U' => ∃ v L, o = .returned v ∧ Q1 Z r0 h0 n0 v U'.heap L ∧ FrameEnd U o U' L ({ frames := 1, cells := 1, slots := 16, locals := 12 } : Room).cells ({ frames := 1, cells := 1, slots := 16, locals := 12 } : Room).slots) := by
  refine MetFree.of_bodySF (plainFor_of_name pn0) hisR ?_
  intro p e s m args below meth c s₁ Bd hml0 hP hK
  obtain ⟨rfl, hZ, hh⟩ := hP
  have hx := Bd.exec
  have hby := Bd.bytes
  have hml : c.maxLocals = 1 := hml0
  have hown : s.vm.findClass "com/example/bytewright/bytewright/grid/ObjectStarts" = some m.cls := findClass_of_methodNamed Bd.named
  have hnm := (name_of_methodNamed Bd.named Bd.method).1
  have X0 : Stand p l e ({ frames := 1, cells := 1, slots := 16, locals := 12 } : Room) s m #[(.ref r0)] below meth c s₁ [] 0 0 := Stand.of_body Bd
  have e0 : s₁.heap = h0 := by rw [← hh, Bd.state]; rfl
  have N0 := Fr.nil n0
  have pre0 : ∀ t, Steps p.tables e below (s₁.setTop (mkF m 0 #[rv r0] [])) t → Steps p.tables e below (s₁.setTop (entryFrame m #[(.ref r0)] 1)) t := fun t k => castTop (ef_1 m r0) k
  have pre1 : ∀ t, Steps p.tables e below (s₁.setTop (mkF m 1 #[rv r0] [(.ref r0)])) t → Steps p.tables e below (s₁.setTop (entryFrame m #[(.ref r0)] 1)) t := by
    intro t kt
    refine pre0 _ ?_
    show Steps p.tables e below (s₁.setTop (mkF m 0 #[rv r0] [])) _
    refine XS.aloadN X0.here hx rfl (hb hby d1_0) rfl rfl ?_
    exact kt
  obtain ⟨T2, X2, e2, st2⟩ := initO X0 hx hZ hown (hw _ (List.mem_of_getElem? (i := 7) rfl)) (hw _ (List.mem_of_getElem? (i := 8) rfl)) (hw _ (List.mem_of_getElem? (i := 9) rfl)) e0 (g := (mkF m 1 #[rv r0] [(.ref r0)])) rfl (by rw [hml]; rfl) rfl (hb hby d1_1) (by decide) (W := 0) (by show 2 * 0 + _ ≤ _; exact Nat.le_of_eq rfl) (by decide)
  have pre3 : ∀ t, Steps p.tables e below (T2.setTop (mkF m 7 #[rv r0] [(.int (16 : Int32)), (.ref r0)])) t → Steps p.tables e below (s₁.setTop (entryFrame m #[(.ref r0)] 1)) t := by
    intro t kt
    refine pre1 _ ?_
    show Steps p.tables e below (s₁.setTop (mkF m 1 #[rv r0] [(.ref r0)])) _
    refine st2 _ ?_
    show Steps p.tables e below (T2.setTop (mkF m 4 #[rv r0] [])) _
    refine XS.aloadN X2.here hx rfl (hb hby d1_4) rfl rfl ?_
    refine XS.bipush X2.here hx rfl (hb hby d1_5) ?_
    exact kt
  obtain ⟨T4, h4, k4, X4, e4, E4, A4, Ex4, st4⟩ := newPE X2 hx hZ (hw _ (List.mem_of_getElem? (i := 10) rfl)) e2 (g := (mkF m 7 #[rv r0] [(.int (16 : Int32)), (.ref r0)])) rfl (hb hby d1_7) rfl (by decide) (cap := 16) (by decide) (by decide) (by decide) (by decide) (ad := "[I") rfl
  obtain ⟨b4, g4⟩ : ∃ z, z = h0.size := ⟨_, rfl⟩
  rw [← g4] at A4 Ex4 st4
  have g_b4 : n0 ≤ b4 := Nat.le_trans (Nat.le_trans Z0 (Keep.refl h0 [r0]).1) (Nat.le_of_eq g4.symm)
  have sz_b4 : h0.size ≤ b4 := Nat.le_trans (Keep.refl h0 [r0]).1 (Nat.le_of_eq g4.symm)
  have V_b4 : Arv Z h4 b4 k4 .int (16 : Int32) [(.int (0 : Int32)), (.int (0 : Int32)), (.int (0 : Int32)), (.int (0 : Int32)), (.int (0 : Int32)), (.int (0 : Int32)), (.int (0 : Int32)), (.int (0 : Int32)), (.int (0 : Int32)), (.int (0 : Int32)), (.int (0 : Int32)), (.int (0 : Int32)), (.int (0 : Int32)), (.int (0 : Int32)), (.int (0 : Int32)), (.int (0 : Int32))] (.int (0 : Int32)) := (Arv.new A4 (by decide)).pad (pad_rep [] (.int (0 : Int32)) 16)
  have K4 : Keep h0 h4 [r0] := (Keep.refl h0 [r0]).ext E4
  have pre5 : ∀ t, Steps p.tables e below (T4.setTop (mkF m 9 #[rv r0] [(.ref b4), (.ref r0)])) t → Steps p.tables e below (s₁.setTop (entryFrame m #[(.ref r0)] 1)) t := by
    intro t kt
    refine pre3 _ ?_
    show Steps p.tables e below (T2.setTop (mkF m 7 #[rv r0] [(.int (16 : Int32)), (.ref r0)])) _
    refine st4 _ ?_
    exact kt
  obtain ⟨T6, h6, X6, e6, W6, st6⟩ := putF X4 hx hZ hown (host := "") (Or.inl (hw _ (List.mem_of_getElem? (i := 11) rfl))) Via.refl e4 (F_offsets_r0.ext E4) (E_r0.ext E4) (Or.inl (hw _ (List.mem_of_getElem? (i := 12) rfl))) (hw _ (List.mem_of_getElem? (i := 2) rfl)) (ty := (.array .int)) (by decide) rfl rfl (g := (mkF m 9 #[rv r0] [(.ref b4), (.ref r0)])) rfl rfl (hb hby d1_9)
  have Fw6 : Fld Z h6 r0 "com/example/bytewright/bytewright/grid/ObjectStarts" "offsets" "[I" (.ref b4) := (F_offsets_r0.ext E4).same W6
  have K6 : Keep h0 h6 [r0] := K4.wr W6 (Or.inl (List.mem_of_getElem? (i := 0) rfl))
  have N6 := Fr.snoc X6 N0 g_r0
  have pre7 : ∀ t, Steps p.tables e below (T6.setTop (mkF m 12 #[rv r0] [])) t → Steps p.tables e below (s₁.setTop (entryFrame m #[(.ref r0)] 1)) t := by
    intro t kt
    refine pre5 _ ?_
    show Steps p.tables e below (T4.setTop (mkF m 9 #[rv r0] [(.ref b4), (.ref r0)])) _
    refine st6 _ ?_
    exact kt
  obtain ⟨fs, hr, hrun, hended, hW, hsame⟩ := X6.leave (v := none) (fun _ => rfl)
  refine ⟨_, _, pre7 _ ?_, hrun, hended, _, _, rfl, ?_, ⟨_, rfl⟩, hW, hsame.mono (by decide) (by decide)⟩
  · show Steps p.tables e below (T6.setTop (mkF m 12 #[rv r0] [])) _
    exact X6.returnOut hx Bd.returns (hb hby d1_12) hr
  · show Q1 Z r0 h0 n0 _ T6.heap _
    rw [e6]
    exact ⟨b4, k4, rfl, N6, K6, sz_b4, Fw6, ((F_count_r0.ext E4).other W6 (Or.inr (slot_ne (Or.inl (hw _ (List.mem_of_getElem? (i := 19) rfl))) (Or.inl (hw _ (List.mem_of_getElem? (i := 12) rfl))) (by decide) (t := .int) (t' := (.array .int)) (by decide) (by decide)))), (V_b4.other W6 (Ne.symm (Nat.ne_of_lt (Nat.lt_of_lt_of_le E_r0.lt (Nat.le_of_eq g4.symm)))))⟩
theorem d3_0 : decode prog_53_method_2_code 0 = .ok (.aload_n 0, 1) := by decide +kernel
theorem d3_1 : decode prog_53_method_2_code 1 = .ok (.getfield 13, 3) := by decide +kernel
theorem d3_4 : decode prog_53_method_2_code 4 = .ok (.ifCond .le 43, 3) := by decide +kernel
theorem d3_47 : decode prog_53_method_2_code 47 = .ok (.aload_n 0, 1) := by decide +kernel
theorem d3_48 : decode prog_53_method_2_code 48 = .ok (.getfield 13, 3) := by decide +kernel
theorem d3_51 : decode prog_53_method_2_code 51 = .ok (.aload_n 0, 1) := by decide +kernel
theorem d3_52 : decode prog_53_method_2_code 52 = .ok (.getfield 7, 3) := by decide +kernel
theorem d3_55 : decode prog_53_method_2_code 55 = .ok (.arraylength, 1) := by decide +kernel
theorem d3_56 : decode prog_53_method_2_code 56 = .ok (.if_icmp .ne 20, 3) := by decide +kernel
theorem d3_76 : decode prog_53_method_2_code 76 = .ok (.aload_n 0, 1) := by decide +kernel
theorem d3_77 : decode prog_53_method_2_code 77 = .ok (.getfield 7, 3) := by decide +kernel
theorem d3_80 : decode prog_53_method_2_code 80 = .ok (.aload_n 0, 1) := by decide +kernel
theorem d3_81 : decode prog_53_method_2_code 81 = .ok (.getfield 13, 3) := by decide +kernel
theorem d3_84 : decode prog_53_method_2_code 84 = .ok (.iload_n 1, 1) := by decide +kernel
theorem d3_85 : decode prog_53_method_2_code 85 = .ok (.iastore, 1) := by decide +kernel
theorem d3_86 : decode prog_53_method_2_code 86 = .ok (.aload_n 0, 1) := by decide +kernel
theorem d3_87 : decode prog_53_method_2_code 87 = .ok (.dup, 1) := by decide +kernel
theorem d3_88 : decode prog_53_method_2_code 88 = .ok (.getfield 13, 3) := by decide +kernel
theorem d3_91 : decode prog_53_method_2_code 91 = .ok (.dup_x1, 1) := by decide +kernel
theorem d3_92 : decode prog_53_method_2_code 92 = .ok (.iconst 1, 1) := by decide +kernel
theorem d3_93 : decode prog_53_method_2_code 93 = .ok (.iadd, 1) := by decide +kernel
theorem d3_94 : decode prog_53_method_2_code 94 = .ok (.putfield 13, 3) := by decide +kernel
theorem d3_97 : decode prog_53_method_2_code 97 = .ok (.ireturn, 1) := by decide +kernel
theorem ef_3c0 (m : MethodId) (x0 : Addr) (x1 : Int32) : entryFrame m #[(.ref x0), (.int x1)] 2 = mkF m 0 #[.val (.ref x0), .val (.int x1)] [] := by first | (simp [entryFrame, mkF, argsToLocals, Value.category]; done) | rfl
def Q3c0 (Z : State) (r0 : Addr) (p1 : Int32) (ab : Addr) (kc : ClassId) (x0 : Int32) (x1 : Int32) (x2 : Int32) (x3 : Int32) (h0 : Heap) (n0 : Nat) (v : Option Value) (h : Heap) (L : List Loc) : Prop := v = some (.int (0 : Int32)) ∧ Fr n0 L ∧ Keep h0 h [r0, ab] ∧ Fld Z h r0 "com/example/bytewright/bytewright/grid/ObjectStarts" "offsets" "[I" (.ref ab) ∧ Fld Z h r0 "com/example/bytewright/bytewright/grid/ObjectStarts" "count" "I" (.int (1 : Int32)) ∧ Arv Z h ab kc .int (16 : Int32) [(.int p1), (.int x1), (.int x2), (.int x3), (.int (0 : Int32)), (.int (0 : Int32)), (.int (0 : Int32)), (.int (0 : Int32)), (.int (0 : Int32)), (.int (0 : Int32)), (.int (0 : Int32)), (.int (0 : Int32)), (.int (0 : Int32)), (.int (0 : Int32)), (.int (0 : Int32)), (.int (0 : Int32))] (.int (0 : Int32))
set_option maxRecDepth 65536 in
set_option maxHeartbeats 40000000 in
theorem rm3c0 (l : Launch) (Z : State) (a0 : Array Value) (hw : ∀ d ∈ tables_1, d.before a0 Z = true) (ws : List Jvm.Cond) (r0 : Addr) (p1 : Int32) (ab : Addr) (kc : ClassId) (x0 : Int32) (x1 : Int32) (x2 : Int32) (x3 : Int32) (h0 : Heap) (n0 : Nat) (Z0 : n0 ≤ h0.size) (F_offsets_r0 : Fld Z h0 r0 "com/example/bytewright/bytewright/grid/ObjectStarts" "offsets" "[I" (.ref ab)) (F_count_r0 : Fld Z h0 r0 "com/example/bytewright/bytewright/grid/ObjectStarts" "count" "I" (.int (0 : Int32))) (E_r0 : Exa Z h0 r0 "com/example/bytewright/bytewright/grid/ObjectStarts") (g_r0 : n0 ≤ r0) (V_ab : Arv Z h0 ab kc .int (16 : Int32) [(.int x0), (.int x1), (.int x2), (.int x3), (.int (0 : Int32)), (.int (0 : Int32)), (.int (0 : Int32)), (.int (0 : Int32)), (.int (0 : Int32)), (.int (0 : Int32)), (.int (0 : Int32)), (.int (0 : Int32)), (.int (0 : Int32)), (.int (0 : Int32)), (.int (0 : Int32)), (.int (0 : Int32))] (.int (0 : Int32))) (g_ab : n0 ≤ ab) (hne : r0 ≠ ab) :
    MetFree l (⟨"com/example/bytewright/bytewright/grid/ObjectStarts", "add", "(I)I"⟩ : MethodName) (head1 (Jvm.Cond.code (⟨"com/example/bytewright/bytewright/grid/ObjectStarts", "add", "(I)I"⟩ : MethodName) prog_53_method_2_code 2 (some .int) :: ws) ({ frames := 0, cells := 0, slots := 0, locals := 0 } : Room)) (fun a U => a = #[(.ref r0), (.int p1)] ∧ Z.Warmed39 U.vm ∧ U.heap = h0) (fun _ _ _ _ _ => True) (fun _ U o U' => ∃ v L, o = .returned v ∧ Q3c0 Z r0 p1 ab kc x0 x1 x2 x3 h0 n0 v U'.heap L ∧ FrameEnd U o U' L ({ frames := 0, cells := 0, slots := 0, locals := 0 } : Room).cells ({ frames := 0, cells := 0, slots := 0, locals := 0 } : Room).slots) := by
  refine MetFree.of_bodySF (plainFor_of_name pn0) hisR ?_
  intro p e s m args below meth c s₁ Bd hml0 hP hK
  obtain ⟨rfl, hZ, hh⟩ := hP
  have hx := Bd.exec
  have hby := Bd.bytes
  have hml : c.maxLocals = 2 := hml0
  have hown : s.vm.findClass "com/example/bytewright/bytewright/grid/ObjectStarts" = some m.cls := findClass_of_methodNamed Bd.named
  have hnm := (name_of_methodNamed Bd.named Bd.method).1
  have X0 : Stand p l e ({ frames := 0, cells := 0, slots := 0, locals := 0 } : Room) s m #[(.ref r0), (.int p1)] below meth c s₁ [] 0 0 := Stand.of_body Bd
  have e0 : s₁.heap = h0 := by rw [← hh, Bd.state]; rfl
  have N0 := Fr.nil n0
  have pre0 : ∀ t, Steps p.tables e below (s₁.setTop (mkF m 0 #[rv r0, iv p1] [])) t → Steps p.tables e below (s₁.setTop (entryFrame m #[(.ref r0), (.int p1)] 2)) t := fun t k => castTop (ef_3c0 m r0 p1) k
  have pre1 : ∀ t, Steps p.tables e below (s₁.setTop (mkF m 1 #[rv r0, iv p1] [(.ref r0)])) t → Steps p.tables e below (s₁.setTop (entryFrame m #[(.ref r0), (.int p1)] 2)) t := by
    intro t kt
    refine pre0 _ ?_
    show Steps p.tables e below (s₁.setTop (mkF m 0 #[rv r0, iv p1] [])) _
    refine XS.aloadN X0.here hx rfl (hb hby d3_0) rfl rfl ?_
    exact kt
  obtain ⟨T2, X2, e2, st2⟩ := getF X0 hx hZ hown (host := "") (Or.inl (hw _ (List.mem_of_getElem? (i := 18) rfl))) Via.refl e0 F_count_r0 (g := (mkF m 1 #[rv r0, iv p1] [(.ref r0)])) rfl rfl (hb hby d3_1)
  have pre3 : ∀ t, Steps p.tables e below (T2.setTop (mkF m 48 #[rv r0, iv p1] [(.ref r0)])) t → Steps p.tables e below (s₁.setTop (entryFrame m #[(.ref r0), (.int p1)] 2)) t := by
    intro t kt
    refine pre1 _ ?_
    show Steps p.tables e below (s₁.setTop (mkF m 1 #[rv r0, iv p1] [(.ref r0)])) _
    refine st2 _ ?_
    show Steps p.tables e below (T2.setTop (mkF m 4 #[rv r0, iv p1] [(.int (0 : Int32))])) _
    refine XS.ifYes X2.here hx rfl (pc0 := 4) (pc' := 47) rfl (hb hby d3_4) rfl ((if0 _ _).trans (flt (by decide)).2.2.2) (by decide) (by decide) ?_
    refine XS.aloadN X2.here hx rfl (hb hby d3_47) rfl rfl ?_
    exact kt
  obtain ⟨T4, X4, e4, st4⟩ := getF X2 hx hZ hown (host := "") (Or.inl (hw _ (List.mem_of_getElem? (i := 18) rfl))) Via.refl e2 F_count_r0 (g := (mkF m 48 #[rv r0, iv p1] [(.ref r0)])) rfl rfl (hb hby d3_48)
  have pre5 : ∀ t, Steps p.tables e below (T4.setTop (mkF m 52 #[rv r0, iv p1] [(.ref r0), (.int (0 : Int32))])) t → Steps p.tables e below (s₁.setTop (entryFrame m #[(.ref r0), (.int p1)] 2)) t := by
    intro t kt
    refine pre3 _ ?_
    show Steps p.tables e below (T2.setTop (mkF m 48 #[rv r0, iv p1] [(.ref r0)])) _
    refine st4 _ ?_
    show Steps p.tables e below (T4.setTop (mkF m 51 #[rv r0, iv p1] [(.int (0 : Int32))])) _
    refine XS.aloadN X4.here hx rfl (hb hby d3_51) rfl rfl ?_
    exact kt
  obtain ⟨T6, X6, e6, st6⟩ := getF X4 hx hZ hown (host := "") (Or.inl (hw _ (List.mem_of_getElem? (i := 11) rfl))) Via.refl e4 F_offsets_r0 (g := (mkF m 52 #[rv r0, iv p1] [(.ref r0), (.int (0 : Int32))])) rfl rfl (hb hby d3_52)
  obtain ⟨cl7, Ar7, -, S7, M7, -, -⟩ := id V_ab
  have pre8 : ∀ t, Steps p.tables e below (T6.setTop (mkF m 77 #[rv r0, iv p1] [(.ref r0)])) t → Steps p.tables e below (s₁.setTop (entryFrame m #[(.ref r0), (.int p1)] 2)) t := by
    intro t kt
    refine pre5 _ ?_
    show Steps p.tables e below (T4.setTop (mkF m 52 #[rv r0, iv p1] [(.ref r0), (.int (0 : Int32))])) _
    refine st6 _ ?_
    show Steps p.tables e below (T6.setTop (mkF m 55 #[rv r0, iv p1] [(.ref ab), (.int (0 : Int32))])) _
    refine X6.arraylength hx (by rw [e6]; exact Ar7.1) (State.isArrayOf_alike hZ.alike Ar7.2.1) (g := (mkF m 55 #[rv r0, iv p1] [(.ref ab), (.int (0 : Int32))])) rfl rfl (hb hby d3_55) _ ?_
    rw [len_of S7 M7]
    show Steps p.tables e below (T6.setTop (mkF m 56 #[rv r0, iv p1] [(.int (16 : Int32)), (.int (0 : Int32))])) _
    refine XS.icmpYes X6.here hx rfl (pc0 := 56) (pc' := 76) rfl (hb hby d3_56) rfl (feq (by decide)).2 (by decide) (by decide) ?_
    refine XS.aloadN X6.here hx rfl (hb hby d3_76) rfl rfl ?_
    exact kt
  obtain ⟨T9, X9, e9, st9⟩ := getF X6 hx hZ hown (host := "") (Or.inl (hw _ (List.mem_of_getElem? (i := 11) rfl))) Via.refl e6 F_offsets_r0 (g := (mkF m 77 #[rv r0, iv p1] [(.ref r0)])) rfl rfl (hb hby d3_77)
  have pre10 : ∀ t, Steps p.tables e below (T9.setTop (mkF m 81 #[rv r0, iv p1] [(.ref r0), (.ref ab)])) t → Steps p.tables e below (s₁.setTop (entryFrame m #[(.ref r0), (.int p1)] 2)) t := by
    intro t kt
    refine pre8 _ ?_
    show Steps p.tables e below (T6.setTop (mkF m 77 #[rv r0, iv p1] [(.ref r0)])) _
    refine st9 _ ?_
    show Steps p.tables e below (T9.setTop (mkF m 80 #[rv r0, iv p1] [(.ref ab)])) _
    refine XS.aloadN X9.here hx rfl (hb hby d3_80) rfl rfl ?_
    exact kt
  obtain ⟨T11, X11, e11, st11⟩ := getF X9 hx hZ hown (host := "") (Or.inl (hw _ (List.mem_of_getElem? (i := 18) rfl))) Via.refl e9 F_count_r0 (g := (mkF m 81 #[rv r0, iv p1] [(.ref r0), (.ref ab)])) rfl rfl (hb hby d3_81)
  have pre12 : ∀ t, Steps p.tables e below (T11.setTop (mkF m 85 #[rv r0, iv p1] [(.int p1), (.int (0 : Int32)), (.ref ab)])) t → Steps p.tables e below (s₁.setTop (entryFrame m #[(.ref r0), (.int p1)] 2)) t := by
    intro t kt
    refine pre10 _ ?_
    show Steps p.tables e below (T9.setTop (mkF m 81 #[rv r0, iv p1] [(.ref r0), (.ref ab)])) _
    refine st11 _ ?_
    show Steps p.tables e below (T11.setTop (mkF m 84 #[rv r0, iv p1] [(.int (0 : Int32)), (.ref ab)])) _
    refine XS.iloadN X11.here hx rfl (hb hby d3_84) rfl ?_
    exact kt
  obtain ⟨cl13, Ar13, q13, S13, M13, H13, G13⟩ := id V_ab
  have hin13 : ¬ ((0 : Int32) < 0 ∨ cl13.slots.size ≤ ((0 : Int32)).toNatClampNeg) := inb_of S13 ⟨by decide, by decide⟩
  obtain ⟨T13, h13, X13, e13, W13, st13⟩ := stI X11 hx hZ e11 Ar13 (j := (0 : Int32)) hin13 (g := (mkF m 85 #[rv r0, iv p1] [(.int p1), (.int (0 : Int32)), (.ref ab)])) rfl rfl (hb hby d3_85)
  have V13 : Arv Z h13 ab kc .int (16 : Int32) [(.int p1), (.int x1), (.int x2), (.int x3), (.int (0 : Int32)), (.int (0 : Int32)), (.int (0 : Int32)), (.int (0 : Int32)), (.int (0 : Int32)), (.int (0 : Int32)), (.int (0 : Int32)), (.int (0 : Int32)), (.int (0 : Int32)), (.int (0 : Int32)), (.int (0 : Int32)), (.int (0 : Int32))] (.int (0 : Int32)) := Arv.set Ar13 q13 S13 M13 H13 G13 rfl W13 0 rfl (Nat.le_of_ble_eq_true rfl)
  have K13 : Keep h0 h13 [r0, ab] := (Keep.refl h0 [r0, ab]).wr W13 (Or.inl (List.mem_of_getElem? (i := 1) rfl))
  have N13 := Fr.snoc X13 N0 g_ab
  have pre14 : ∀ t, Steps p.tables e below (T13.setTop (mkF m 88 #[rv r0, iv p1] [(.ref r0), (.ref r0)])) t → Steps p.tables e below (s₁.setTop (entryFrame m #[(.ref r0), (.int p1)] 2)) t := by
    intro t kt
    refine pre12 _ ?_
    show Steps p.tables e below (T11.setTop (mkF m 85 #[rv r0, iv p1] [(.int p1), (.int (0 : Int32)), (.ref ab)])) _
    refine st13 _ ?_
    show Steps p.tables e below (T13.setTop (mkF m 86 #[rv r0, iv p1] [])) _
    refine XS.aloadN X13.here hx rfl (hb hby d3_86) rfl rfl ?_
    refine XS.dup X13.here hx rfl (hb hby d3_87) rfl rfl ?_
    exact kt
  obtain ⟨T15, X15, e15, st15⟩ := getF X13 hx hZ hown (host := "") (Or.inl (hw _ (List.mem_of_getElem? (i := 18) rfl))) Via.refl e13 (F_count_r0.other W13 (Or.inl hne)) (g := (mkF m 88 #[rv r0, iv p1] [(.ref r0), (.ref r0)])) rfl rfl (hb hby d3_88)
  have pre16 : ∀ t, Steps p.tables e below (T15.setTop (mkF m 94 #[rv r0, iv p1] [(.int (1 : Int32)), (.ref r0), (.int (0 : Int32))])) t → Steps p.tables e below (s₁.setTop (entryFrame m #[(.ref r0), (.int p1)] 2)) t := by
    intro t kt
    refine pre14 _ ?_
    show Steps p.tables e below (T13.setTop (mkF m 88 #[rv r0, iv p1] [(.ref r0), (.ref r0)])) _
    refine st15 _ ?_
    show Steps p.tables e below (T15.setTop (mkF m 91 #[rv r0, iv p1] [(.int (0 : Int32)), (.ref r0)])) _
    refine XS.dupX1 X15.here hx rfl (hb hby d3_91) rfl rfl rfl ?_
    refine XS.iconst X15.here hx rfl (hb hby d3_92) ?_
    refine XS.iadd X15.here hx rfl (hb hby d3_93) rfl ?_
    show Steps p.tables e below (T15.setTop (mkF m 94 #[rv r0, iv p1] [(.int ((0 : Int32) + (1 : Int32))), (.ref r0), (.int (0 : Int32))])) _
    rw [show ((0 : Int32) + (1 : Int32)) = (1 : Int32) from (by decide)]
    exact kt
  obtain ⟨T17, h17, X17, e17, W17, st17⟩ := putF X15 hx hZ hown (host := "") (Or.inl (hw _ (List.mem_of_getElem? (i := 18) rfl))) Via.refl e15 (F_count_r0.other W13 (Or.inl hne)) (E_r0.wr W13) (Or.inl (hw _ (List.mem_of_getElem? (i := 19) rfl))) (hw _ (List.mem_of_getElem? (i := 2) rfl)) (ty := .int) (by decide) rfl rfl (g := (mkF m 94 #[rv r0, iv p1] [(.int (1 : Int32)), (.ref r0), (.int (0 : Int32))])) rfl rfl (hb hby d3_94)
  have Fw17 : Fld Z h17 r0 "com/example/bytewright/bytewright/grid/ObjectStarts" "count" "I" (.int (1 : Int32)) := (F_count_r0.other W13 (Or.inl hne)).same W17
  have K17 : Keep h0 h17 [r0, ab] := K13.wr W17 (Or.inl (List.mem_of_getElem? (i := 0) rfl))
  have N17 := Fr.snoc X17 N13 g_r0
  have pre18 : ∀ t, Steps p.tables e below (T17.setTop (mkF m 97 #[rv r0, iv p1] [(.int (0 : Int32))])) t → Steps p.tables e below (s₁.setTop (entryFrame m #[(.ref r0), (.int p1)] 2)) t := by
    intro t kt
    refine pre16 _ ?_
    show Steps p.tables e below (T15.setTop (mkF m 94 #[rv r0, iv p1] [(.int (1 : Int32)), (.ref r0), (.int (0 : Int32))])) _
    refine st17 _ ?_
    exact kt
  obtain ⟨fs, hr, hrun, hended, hW, hsame⟩ := X17.leave (v := some (.int (0 : Int32))) (fun h => by rw [Bd.returns] at h; cases h)
  refine ⟨_, _, pre18 _ ?_, hrun, hended, _, _, rfl, ?_, ⟨_, rfl⟩, hW, hsame.mono (by decide) (by decide)⟩
  · show Steps p.tables e below (T17.setTop (mkF m 97 #[rv r0, iv p1] [(.int (0 : Int32))])) _
    exact retI X17 hx Bd.returns (hb hby d3_97) hr
  · show Q3c0 Z r0 p1 ab kc x0 x1 x2 x3 h0 n0 _ T17.heap _
    rw [e17]
    exact ⟨rfl, N17, K17, ((F_offsets_r0.other W13 (Or.inl hne)).other W17 (Or.inr (slot_ne (Or.inl (hw _ (List.mem_of_getElem? (i := 12) rfl))) (Or.inl (hw _ (List.mem_of_getElem? (i := 19) rfl))) (by decide) (t := (.array .int)) (t' := .int) (by decide) (by decide)))), Fw17, (V13.other W17 (Ne.symm hne))⟩
theorem d3_7 : decode prog_53_method_2_code 7 = .ok (.iload_n 1, 1) := by decide +kernel
theorem d3_8 : decode prog_53_method_2_code 8 = .ok (.aload_n 0, 1) := by decide +kernel
theorem d3_9 : decode prog_53_method_2_code 9 = .ok (.getfield 7, 3) := by decide +kernel
theorem d3_12 : decode prog_53_method_2_code 12 = .ok (.aload_n 0, 1) := by decide +kernel
theorem d3_13 : decode prog_53_method_2_code 13 = .ok (.getfield 13, 3) := by decide +kernel
theorem d3_16 : decode prog_53_method_2_code 16 = .ok (.iconst 1, 1) := by decide +kernel
theorem d3_17 : decode prog_53_method_2_code 17 = .ok (.isub, 1) := by decide +kernel
theorem d3_18 : decode prog_53_method_2_code 18 = .ok (.iaload, 1) := by decide +kernel
theorem d3_19 : decode prog_53_method_2_code 19 = .ok (.if_icmp .gt 28, 3) := by decide +kernel
theorem ef_3c1 (m : MethodId) (x0 : Addr) (x1 : Int32) : entryFrame m #[(.ref x0), (.int x1)] 2 = mkF m 0 #[.val (.ref x0), .val (.int x1)] [] := by first | (simp [entryFrame, mkF, argsToLocals, Value.category]; done) | rfl
def Q3c1 (Z : State) (r0 : Addr) (p1 : Int32) (ab : Addr) (kc : ClassId) (x0 : Int32) (x1 : Int32) (x2 : Int32) (x3 : Int32) (h0 : Heap) (n0 : Nat) (v : Option Value) (h : Heap) (L : List Loc) : Prop := v = some (.int (1 : Int32)) ∧ Fr n0 L ∧ Keep h0 h [r0, ab] ∧ Fld Z h r0 "com/example/bytewright/bytewright/grid/ObjectStarts" "offsets" "[I" (.ref ab) ∧ Fld Z h r0 "com/example/bytewright/bytewright/grid/ObjectStarts" "count" "I" (.int (2 : Int32)) ∧ Arv Z h ab kc .int (16 : Int32) [(.int x0), (.int p1), (.int x2), (.int x3), (.int (0 : Int32)), (.int (0 : Int32)), (.int (0 : Int32)), (.int (0 : Int32)), (.int (0 : Int32)), (.int (0 : Int32)), (.int (0 : Int32)), (.int (0 : Int32)), (.int (0 : Int32)), (.int (0 : Int32)), (.int (0 : Int32)), (.int (0 : Int32))] (.int (0 : Int32))
set_option maxRecDepth 65536 in
set_option maxHeartbeats 40000000 in
theorem rm3c1 (l : Launch) (Z : State) (a0 : Array Value) (hw : ∀ d ∈ tables_1, d.before a0 Z = true) (ws : List Jvm.Cond) (r0 : Addr) (p1 : Int32) (ab : Addr) (kc : ClassId) (x0 : Int32) (x1 : Int32) (x2 : Int32) (x3 : Int32) (h0 : Heap) (n0 : Nat) (Z0 : n0 ≤ h0.size) (F_offsets_r0 : Fld Z h0 r0 "com/example/bytewright/bytewright/grid/ObjectStarts" "offsets" "[I" (.ref ab)) (F_count_r0 : Fld Z h0 r0 "com/example/bytewright/bytewright/grid/ObjectStarts" "count" "I" (.int (1 : Int32))) (E_r0 : Exa Z h0 r0 "com/example/bytewright/bytewright/grid/ObjectStarts") (g_r0 : n0 ≤ r0) (V_ab : Arv Z h0 ab kc .int (16 : Int32) [(.int x0), (.int x1), (.int x2), (.int x3), (.int (0 : Int32)), (.int (0 : Int32)), (.int (0 : Int32)), (.int (0 : Int32)), (.int (0 : Int32)), (.int (0 : Int32)), (.int (0 : Int32)), (.int (0 : Int32)), (.int (0 : Int32)), (.int (0 : Int32)), (.int (0 : Int32)), (.int (0 : Int32))] (.int (0 : Int32))) (g_ab : n0 ≤ ab) (hne : r0 ≠ ab) (hlt : x0 < p1) :
    MetFree l (⟨"com/example/bytewright/bytewright/grid/ObjectStarts", "add", "(I)I"⟩ : MethodName) (head1 (Jvm.Cond.code (⟨"com/example/bytewright/bytewright/grid/ObjectStarts", "add", "(I)I"⟩ : MethodName) prog_53_method_2_code 2 (some .int) :: ws) ({ frames := 0, cells := 0, slots := 0, locals := 0 } : Room)) (fun a U => a = #[(.ref r0), (.int p1)] ∧ Z.Warmed39 U.vm ∧ U.heap = h0) (fun _ _ _ _ _ => True) (fun _ U o U' => ∃ v L, o = .returned v ∧ Q3c1 Z r0 p1 ab kc x0 x1 x2 x3 h0 n0 v U'.heap L ∧ FrameEnd U o U' L ({ frames := 0, cells := 0, slots := 0, locals := 0 } : Room).cells ({ frames := 0, cells := 0, slots := 0, locals := 0 } : Room).slots) := by
  refine MetFree.of_bodySF (plainFor_of_name pn0) hisR ?_
  intro p e s m args below meth c s₁ Bd hml0 hP hK
  obtain ⟨rfl, hZ, hh⟩ := hP
  have hx := Bd.exec
  have hby := Bd.bytes
  have hml : c.maxLocals = 2 := hml0
  have hown : s.vm.findClass "com/example/bytewright/bytewright/grid/ObjectStarts" = some m.cls := findClass_of_methodNamed Bd.named
  have hnm := (name_of_methodNamed Bd.named Bd.method).1
  have X0 : Stand p l e ({ frames := 0, cells := 0, slots := 0, locals := 0 } : Room) s m #[(.ref r0), (.int p1)] below meth c s₁ [] 0 0 := Stand.of_body Bd
  have e0 : s₁.heap = h0 := by rw [← hh, Bd.state]; rfl
  have N0 := Fr.nil n0
  have pre0 : ∀ t, Steps p.tables e below (s₁.setTop (mkF m 0 #[rv r0, iv p1] [])) t → Steps p.tables e below (s₁.setTop (entryFrame m #[(.ref r0), (.int p1)] 2)) t := fun t k => castTop (ef_3c1 m r0 p1) k
  have pre1 : ∀ t, Steps p.tables e below (s₁.setTop (mkF m 1 #[rv r0, iv p1] [(.ref r0)])) t → Steps p.tables e below (s₁.setTop (entryFrame m #[(.ref r0), (.int p1)] 2)) t := by
    intro t kt
    refine pre0 _ ?_
    show Steps p.tables e below (s₁.setTop (mkF m 0 #[rv r0, iv p1] [])) _
    refine XS.aloadN X0.here hx rfl (hb hby d3_0) rfl rfl ?_
    exact kt
  obtain ⟨T2, X2, e2, st2⟩ := getF X0 hx hZ hown (host := "") (Or.inl (hw _ (List.mem_of_getElem? (i := 18) rfl))) Via.refl e0 F_count_r0 (g := (mkF m 1 #[rv r0, iv p1] [(.ref r0)])) rfl rfl (hb hby d3_1)
  have pre3 : ∀ t, Steps p.tables e below (T2.setTop (mkF m 9 #[rv r0, iv p1] [(.ref r0), (.int p1)])) t → Steps p.tables e below (s₁.setTop (entryFrame m #[(.ref r0), (.int p1)] 2)) t := by
    intro t kt
    refine pre1 _ ?_
    show Steps p.tables e below (s₁.setTop (mkF m 1 #[rv r0, iv p1] [(.ref r0)])) _
    refine st2 _ ?_
    show Steps p.tables e below (T2.setTop (mkF m 4 #[rv r0, iv p1] [(.int (1 : Int32))])) _
    refine XS.ifNo X2.here hx rfl (hb hby d3_4) rfl ((if0 _ _).trans (tlt (by decide)).2.2.2) ?_
    refine XS.iloadN X2.here hx rfl (hb hby d3_7) rfl ?_
    refine XS.aloadN X2.here hx rfl (hb hby d3_8) rfl rfl ?_
    exact kt
  obtain ⟨T4, X4, e4, st4⟩ := getF X2 hx hZ hown (host := "") (Or.inl (hw _ (List.mem_of_getElem? (i := 11) rfl))) Via.refl e2 F_offsets_r0 (g := (mkF m 9 #[rv r0, iv p1] [(.ref r0), (.int p1)])) rfl rfl (hb hby d3_9)
  have pre5 : ∀ t, Steps p.tables e below (T4.setTop (mkF m 13 #[rv r0, iv p1] [(.ref r0), (.ref ab), (.int p1)])) t → Steps p.tables e below (s₁.setTop (entryFrame m #[(.ref r0), (.int p1)] 2)) t := by
    intro t kt
    refine pre3 _ ?_
    show Steps p.tables e below (T2.setTop (mkF m 9 #[rv r0, iv p1] [(.ref r0), (.int p1)])) _
    refine st4 _ ?_
    show Steps p.tables e below (T4.setTop (mkF m 12 #[rv r0, iv p1] [(.ref ab), (.int p1)])) _
    refine XS.aloadN X4.here hx rfl (hb hby d3_12) rfl rfl ?_
    exact kt
  obtain ⟨T6, X6, e6, st6⟩ := getF X4 hx hZ hown (host := "") (Or.inl (hw _ (List.mem_of_getElem? (i := 18) rfl))) Via.refl e4 F_count_r0 (g := (mkF m 13 #[rv r0, iv p1] [(.ref r0), (.ref ab), (.int p1)])) rfl rfl (hb hby d3_13)
  obtain ⟨cl7, Ar7, q7, S7, M7, H7, G7⟩ := id V_ab
  have hin7 : ¬ ((0 : Int32) < 0 ∨ cl7.slots.size ≤ ((0 : Int32)).toNatClampNeg) := inb_of S7 ⟨by decide, by decide⟩
  have hat7 : cl7.slots[((0 : Int32)).toNatClampNeg]? = some (.int x0) := H7.at hin7 rfl
  have pre9 : ∀ t, Steps p.tables e below (T6.setTop (mkF m 19 #[rv r0, iv p1] [(.int x0), (.int p1)])) t → Steps p.tables e below (s₁.setTop (entryFrame m #[(.ref r0), (.int p1)] 2)) t := by
    intro t kt
    refine pre5 _ ?_
    show Steps p.tables e below (T4.setTop (mkF m 13 #[rv r0, iv p1] [(.ref r0), (.ref ab), (.int p1)])) _
    refine st6 _ ?_
    show Steps p.tables e below (T6.setTop (mkF m 16 #[rv r0, iv p1] [(.int (1 : Int32)), (.ref ab), (.int p1)])) _
    refine XS.iconst X6.here hx rfl (hb hby d3_16) ?_
    refine XS.isub X6.here hx rfl (hb hby d3_17) rfl ?_
    show Steps p.tables e below (T6.setTop (mkF m 18 #[rv r0, iv p1] [(.int ((1 : Int32) - (1 : Int32))), (.ref ab), (.int p1)])) _
    rw [show ((1 : Int32) - (1 : Int32)) = (0 : Int32) from (by decide)]
    show Steps p.tables e below (T6.setTop (mkF m 18 #[rv r0, iv p1] [(.int (0 : Int32)), (.ref ab), (.int p1)])) _
    refine X6.iaload hx (j := (0 : Int32)) (v := (.int x0)) (by rw [e6]; exact Ar7.1) (State.isArrayOf_alike hZ.alike Ar7.2.1) Ar7.2.2 hin7 hat7 (g := (mkF m 18 #[rv r0, iv p1] [(.int (0 : Int32)), (.ref ab), (.int p1)])) rfl rfl (hb hby d3_18) _ ?_
    exact kt
  have hc19_8 : x0 < p1 := hlt
  have pre10 : ∀ t, Steps p.tables e below (T6.setTop (mkF m 48 #[rv r0, iv p1] [(.ref r0)])) t → Steps p.tables e below (s₁.setTop (entryFrame m #[(.ref r0), (.int p1)] 2)) t := by
    intro t kt
    refine pre9 _ ?_
    show Steps p.tables e below (T6.setTop (mkF m 19 #[rv r0, iv p1] [(.int x0), (.int p1)])) _
    refine XS.icmpYes X6.here hx rfl (pc0 := 19) (pc' := 47) rfl (hb hby d3_19) rfl (tlt hc19_8).2.2.1 (by decide) (by decide) ?_
    refine XS.aloadN X6.here hx rfl (hb hby d3_47) rfl rfl ?_
    exact kt
  obtain ⟨T11, X11, e11, st11⟩ := getF X6 hx hZ hown (host := "") (Or.inl (hw _ (List.mem_of_getElem? (i := 18) rfl))) Via.refl e6 F_count_r0 (g := (mkF m 48 #[rv r0, iv p1] [(.ref r0)])) rfl rfl (hb hby d3_48)
  have pre12 : ∀ t, Steps p.tables e below (T11.setTop (mkF m 52 #[rv r0, iv p1] [(.ref r0), (.int (1 : Int32))])) t → Steps p.tables e below (s₁.setTop (entryFrame m #[(.ref r0), (.int p1)] 2)) t := by
    intro t kt
    refine pre10 _ ?_
    show Steps p.tables e below (T6.setTop (mkF m 48 #[rv r0, iv p1] [(.ref r0)])) _
    refine st11 _ ?_
    show Steps p.tables e below (T11.setTop (mkF m 51 #[rv r0, iv p1] [(.int (1 : Int32))])) _
    refine XS.aloadN X11.here hx rfl (hb hby d3_51) rfl rfl ?_
    exact kt
  obtain ⟨T13, X13, e13, st13⟩ := getF X11 hx hZ hown (host := "") (Or.inl (hw _ (List.mem_of_getElem? (i := 11) rfl))) Via.refl e11 F_offsets_r0 (g := (mkF m 52 #[rv r0, iv p1] [(.ref r0), (.int (1 : Int32))])) rfl rfl (hb hby d3_52)
  obtain ⟨cl14, Ar14, -, S14, M14, -, -⟩ := id V_ab
  have pre15 : ∀ t, Steps p.tables e below (T13.setTop (mkF m 77 #[rv r0, iv p1] [(.ref r0)])) t → Steps p.tables e below (s₁.setTop (entryFrame m #[(.ref r0), (.int p1)] 2)) t := by
    intro t kt
    refine pre12 _ ?_
    show Steps p.tables e below (T11.setTop (mkF m 52 #[rv r0, iv p1] [(.ref r0), (.int (1 : Int32))])) _
    refine st13 _ ?_
    show Steps p.tables e below (T13.setTop (mkF m 55 #[rv r0, iv p1] [(.ref ab), (.int (1 : Int32))])) _
    refine X13.arraylength hx (by rw [e13]; exact Ar14.1) (State.isArrayOf_alike hZ.alike Ar14.2.1) (g := (mkF m 55 #[rv r0, iv p1] [(.ref ab), (.int (1 : Int32))])) rfl rfl (hb hby d3_55) _ ?_
    rw [len_of S14 M14]
    show Steps p.tables e below (T13.setTop (mkF m 56 #[rv r0, iv p1] [(.int (16 : Int32)), (.int (1 : Int32))])) _
    refine XS.icmpYes X13.here hx rfl (pc0 := 56) (pc' := 76) rfl (hb hby d3_56) rfl (feq (by decide)).2 (by decide) (by decide) ?_
    refine XS.aloadN X13.here hx rfl (hb hby d3_76) rfl rfl ?_
    exact kt
  obtain ⟨T16, X16, e16, st16⟩ := getF X13 hx hZ hown (host := "") (Or.inl (hw _ (List.mem_of_getElem? (i := 11) rfl))) Via.refl e13 F_offsets_r0 (g := (mkF m 77 #[rv r0, iv p1] [(.ref r0)])) rfl rfl (hb hby d3_77)
  have pre17 : ∀ t, Steps p.tables e below (T16.setTop (mkF m 81 #[rv r0, iv p1] [(.ref r0), (.ref ab)])) t → Steps p.tables e below (s₁.setTop (entryFrame m #[(.ref r0), (.int p1)] 2)) t := by
    intro t kt
    refine pre15 _ ?_
    show Steps p.tables e below (T13.setTop (mkF m 77 #[rv r0, iv p1] [(.ref r0)])) _
    refine st16 _ ?_
    show Steps p.tables e below (T16.setTop (mkF m 80 #[rv r0, iv p1] [(.ref ab)])) _
    refine XS.aloadN X16.here hx rfl (hb hby d3_80) rfl rfl ?_
    exact kt
  obtain ⟨T18, X18, e18, st18⟩ := getF X16 hx hZ hown (host := "") (Or.inl (hw _ (List.mem_of_getElem? (i := 18) rfl))) Via.refl e16 F_count_r0 (g := (mkF m 81 #[rv r0, iv p1] [(.ref r0), (.ref ab)])) rfl rfl (hb hby d3_81)
  have pre19 : ∀ t, Steps p.tables e below (T18.setTop (mkF m 85 #[rv r0, iv p1] [(.int p1), (.int (1 : Int32)), (.ref ab)])) t → Steps p.tables e below (s₁.setTop (entryFrame m #[(.ref r0), (.int p1)] 2)) t := by
    intro t kt
    refine pre17 _ ?_
    show Steps p.tables e below (T16.setTop (mkF m 81 #[rv r0, iv p1] [(.ref r0), (.ref ab)])) _
    refine st18 _ ?_
    show Steps p.tables e below (T18.setTop (mkF m 84 #[rv r0, iv p1] [(.int (1 : Int32)), (.ref ab)])) _
    refine XS.iloadN X18.here hx rfl (hb hby d3_84) rfl ?_
    exact kt
  obtain ⟨cl20, Ar20, q20, S20, M20, H20, G20⟩ := id V_ab
  have hin20 : ¬ ((1 : Int32) < 0 ∨ cl20.slots.size ≤ ((1 : Int32)).toNatClampNeg) := inb_of S20 ⟨by decide, by decide⟩
  obtain ⟨T20, h20, X20, e20, W20, st20⟩ := stI X18 hx hZ e18 Ar20 (j := (1 : Int32)) hin20 (g := (mkF m 85 #[rv r0, iv p1] [(.int p1), (.int (1 : Int32)), (.ref ab)])) rfl rfl (hb hby d3_85)
  have V20 : Arv Z h20 ab kc .int (16 : Int32) [(.int x0), (.int p1), (.int x2), (.int x3), (.int (0 : Int32)), (.int (0 : Int32)), (.int (0 : Int32)), (.int (0 : Int32)), (.int (0 : Int32)), (.int (0 : Int32)), (.int (0 : Int32)), (.int (0 : Int32)), (.int (0 : Int32)), (.int (0 : Int32)), (.int (0 : Int32)), (.int (0 : Int32))] (.int (0 : Int32)) := Arv.set Ar20 q20 S20 M20 H20 G20 rfl W20 1 rfl (Nat.le_of_ble_eq_true rfl)
  have K20 : Keep h0 h20 [r0, ab] := (Keep.refl h0 [r0, ab]).wr W20 (Or.inl (List.mem_of_getElem? (i := 1) rfl))
  have N20 := Fr.snoc X20 N0 g_ab
  have pre21 : ∀ t, Steps p.tables e below (T20.setTop (mkF m 88 #[rv r0, iv p1] [(.ref r0), (.ref r0)])) t → Steps p.tables e below (s₁.setTop (entryFrame m #[(.ref r0), (.int p1)] 2)) t := by
    intro t kt
    refine pre19 _ ?_
    show Steps p.tables e below (T18.setTop (mkF m 85 #[rv r0, iv p1] [(.int p1), (.int (1 : Int32)), (.ref ab)])) _
    refine st20 _ ?_
    show Steps p.tables e below (T20.setTop (mkF m 86 #[rv r0, iv p1] [])) _
    refine XS.aloadN X20.here hx rfl (hb hby d3_86) rfl rfl ?_
    refine XS.dup X20.here hx rfl (hb hby d3_87) rfl rfl ?_
    exact kt
  obtain ⟨T22, X22, e22, st22⟩ := getF X20 hx hZ hown (host := "") (Or.inl (hw _ (List.mem_of_getElem? (i := 18) rfl))) Via.refl e20 (F_count_r0.other W20 (Or.inl hne)) (g := (mkF m 88 #[rv r0, iv p1] [(.ref r0), (.ref r0)])) rfl rfl (hb hby d3_88)
  have pre23 : ∀ t, Steps p.tables e below (T22.setTop (mkF m 94 #[rv r0, iv p1] [(.int (2 : Int32)), (.ref r0), (.int (1 : Int32))])) t → Steps p.tables e below (s₁.setTop (entryFrame m #[(.ref r0), (.int p1)] 2)) t := by
    intro t kt
    refine pre21 _ ?_
    show Steps p.tables e below (T20.setTop (mkF m 88 #[rv r0, iv p1] [(.ref r0), (.ref r0)])) _
    refine st22 _ ?_
    show Steps p.tables e below (T22.setTop (mkF m 91 #[rv r0, iv p1] [(.int (1 : Int32)), (.ref r0)])) _
    refine XS.dupX1 X22.here hx rfl (hb hby d3_91) rfl rfl rfl ?_
    refine XS.iconst X22.here hx rfl (hb hby d3_92) ?_
    refine XS.iadd X22.here hx rfl (hb hby d3_93) rfl ?_
    show Steps p.tables e below (T22.setTop (mkF m 94 #[rv r0, iv p1] [(.int ((1 : Int32) + (1 : Int32))), (.ref r0), (.int (1 : Int32))])) _
    rw [show ((1 : Int32) + (1 : Int32)) = (2 : Int32) from (by decide)]
    exact kt
  obtain ⟨T24, h24, X24, e24, W24, st24⟩ := putF X22 hx hZ hown (host := "") (Or.inl (hw _ (List.mem_of_getElem? (i := 18) rfl))) Via.refl e22 (F_count_r0.other W20 (Or.inl hne)) (E_r0.wr W20) (Or.inl (hw _ (List.mem_of_getElem? (i := 19) rfl))) (hw _ (List.mem_of_getElem? (i := 2) rfl)) (ty := .int) (by decide) rfl rfl (g := (mkF m 94 #[rv r0, iv p1] [(.int (2 : Int32)), (.ref r0), (.int (1 : Int32))])) rfl rfl (hb hby d3_94)
  have Fw24 : Fld Z h24 r0 "com/example/bytewright/bytewright/grid/ObjectStarts" "count" "I" (.int (2 : Int32)) := (F_count_r0.other W20 (Or.inl hne)).same W24
  have K24 : Keep h0 h24 [r0, ab] := K20.wr W24 (Or.inl (List.mem_of_getElem? (i := 0) rfl))
  have N24 := Fr.snoc X24 N20 g_r0
  have pre25 : ∀ t, Steps p.tables e below (T24.setTop (mkF m 97 #[rv r0, iv p1] [(.int (1 : Int32))])) t → Steps p.tables e below (s₁.setTop (entryFrame m #[(.ref r0), (.int p1)] 2)) t := by
    intro t kt
    refine pre23 _ ?_
    show Steps p.tables e below (T22.setTop (mkF m 94 #[rv r0, iv p1] [(.int (2 : Int32)), (.ref r0), (.int (1 : Int32))])) _
    refine st24 _ ?_
    exact kt
  obtain ⟨fs, hr, hrun, hended, hW, hsame⟩ := X24.leave (v := some (.int (1 : Int32))) (fun h => by rw [Bd.returns] at h; cases h)
  refine ⟨_, _, pre25 _ ?_, hrun, hended, _, _, rfl, ?_, ⟨_, rfl⟩, hW, hsame.mono (by decide) (by decide)⟩
  · show Steps p.tables e below (T24.setTop (mkF m 97 #[rv r0, iv p1] [(.int (1 : Int32))])) _
    exact retI X24 hx Bd.returns (hb hby d3_97) hr
  · show Q3c1 Z r0 p1 ab kc x0 x1 x2 x3 h0 n0 _ T24.heap _
    rw [e24]
    exact ⟨rfl, N24, K24, ((F_offsets_r0.other W20 (Or.inl hne)).other W24 (Or.inr (slot_ne (Or.inl (hw _ (List.mem_of_getElem? (i := 12) rfl))) (Or.inl (hw _ (List.mem_of_getElem? (i := 19) rfl))) (by decide) (t := (.array .int)) (t' := .int) (by decide) (by decide)))), Fw24, (V20.other W24 (Ne.symm hne))⟩

theorem ef_3c2 (m : MethodId) (x0 : Addr) (x1 : Int32) : entryFrame m #[(.ref x0), (.int x1)] 2 = mkF m 0 #[.val (.ref x0), .val (.int x1)] [] := by first | (simp [entryFrame, mkF, argsToLocals, Value.category]; done) | rfl
def Q3c2 (Z : State) (r0 : Addr) (p1 : Int32) (ab : Addr) (kc : ClassId) (x0 : Int32) (x1 : Int32) (x2 : Int32) (x3 : Int32) (h0 : Heap) (n0 : Nat) (v : Option Value) (h : Heap) (L : List Loc) : Prop := v = some (.int (2 : Int32)) ∧ Fr n0 L ∧ Keep h0 h [r0, ab] ∧ Fld Z h r0 "com/example/bytewright/bytewright/grid/ObjectStarts" "offsets" "[I" (.ref ab) ∧ Fld Z h r0 "com/example/bytewright/bytewright/grid/ObjectStarts" "count" "I" (.int (3 : Int32)) ∧ Arv Z h ab kc .int (16 : Int32) [(.int x0), (.int x1), (.int p1), (.int x3), (.int (0 : Int32)), (.int (0 : Int32)), (.int (0 : Int32)), (.int (0 : Int32)), (.int (0 : Int32)), (.int (0 : Int32)), (.int (0 : Int32)), (.int (0 : Int32)), (.int (0 : Int32)), (.int (0 : Int32)), (.int (0 : Int32)), (.int (0 : Int32))] (.int (0 : Int32))
set_option maxRecDepth 65536 in
set_option maxHeartbeats 40000000 in
theorem rm3c2 (l : Launch) (Z : State) (a0 : Array Value) (hw : ∀ d ∈ tables_1, d.before a0 Z = true) (ws : List Jvm.Cond) (r0 : Addr) (p1 : Int32) (ab : Addr) (kc : ClassId) (x0 : Int32) (x1 : Int32) (x2 : Int32) (x3 : Int32) (h0 : Heap) (n0 : Nat) (Z0 : n0 ≤ h0.size) (F_offsets_r0 : Fld Z h0 r0 "com/example/bytewright/bytewright/grid/ObjectStarts" "offsets" "[I" (.ref ab)) (F_count_r0 : Fld Z h0 r0 "com/example/bytewright/bytewright/grid/ObjectStarts" "count" "I" (.int (2 : Int32))) (E_r0 : Exa Z h0 r0 "com/example/bytewright/bytewright/grid/ObjectStarts") (g_r0 : n0 ≤ r0) (V_ab : Arv Z h0 ab kc .int (16 : Int32) [(.int x0), (.int x1), (.int x2), (.int x3), (.int (0 : Int32)), (.int (0 : Int32)), (.int (0 : Int32)), (.int (0 : Int32)), (.int (0 : Int32)), (.int (0 : Int32)), (.int (0 : Int32)), (.int (0 : Int32)), (.int (0 : Int32)), (.int (0 : Int32)), (.int (0 : Int32)), (.int (0 : Int32))] (.int (0 : Int32))) (g_ab : n0 ≤ ab) (hne : r0 ≠ ab) (hlt : x1 < p1) :
    MetFree l (⟨"com/example/bytewright/bytewright/grid/ObjectStarts", "add", "(I)I"⟩ : MethodName) (head1 (Jvm.Cond.code (⟨"com/example/bytewright/bytewright/grid/ObjectStarts", "add", "(I)I"⟩ : MethodName) prog_53_method_2_code 2 (some .int) :: ws) ({ frames := 0, cells := 0, slots := 0, locals := 0 } : Room)) (fun a U => a = #[(.ref r0), (.int p1)] ∧ Z.Warmed39 U.vm ∧ U.heap = h0) (fun _ _ _ _ _ => True) (fun _ U o U' => ∃ v L, o = .returned v ∧ Q3c2 Z r0 p1 ab kc x0 x1 x2 x3 h0 n0 v U'.heap L ∧ FrameEnd U o U' L ({ frames := 0, cells := 0, slots := 0, locals := 0 } : Room).cells ({ frames := 0, cells := 0, slots := 0, locals := 0 } : Room).slots) := by
  refine MetFree.of_bodySF (plainFor_of_name pn0) hisR ?_
  intro p e s m args below meth c s₁ Bd hml0 hP hK
  obtain ⟨rfl, hZ, hh⟩ := hP
  have hx := Bd.exec
  have hby := Bd.bytes
  have hml : c.maxLocals = 2 := hml0
  have hown : s.vm.findClass "com/example/bytewright/bytewright/grid/ObjectStarts" = some m.cls := findClass_of_methodNamed Bd.named
  have hnm := (name_of_methodNamed Bd.named Bd.method).1
  have X0 : Stand p l e ({ frames := 0, cells := 0, slots := 0, locals := 0 } : Room) s m #[(.ref r0), (.int p1)] below meth c s₁ [] 0 0 := Stand.of_body Bd
  have e0 : s₁.heap = h0 := by rw [← hh, Bd.state]; rfl
  have N0 := Fr.nil n0
  have pre0 : ∀ t, Steps p.tables e below (s₁.setTop (mkF m 0 #[rv r0, iv p1] [])) t → Steps p.tables e below (s₁.setTop (entryFrame m #[(.ref r0), (.int p1)] 2)) t := fun t k => castTop (ef_3c2 m r0 p1) k
  have pre1 : ∀ t, Steps p.tables e below (s₁.setTop (mkF m 1 #[rv r0, iv p1] [(.ref r0)])) t → Steps p.tables e below (s₁.setTop (entryFrame m #[(.ref r0), (.int p1)] 2)) t := by
    intro t kt
    refine pre0 _ ?_
    show Steps p.tables e below (s₁.setTop (mkF m 0 #[rv r0, iv p1] [])) _
    refine XS.aloadN X0.here hx rfl (hb hby d3_0) rfl rfl ?_
    exact kt
  obtain ⟨T2, X2, e2, st2⟩ := getF X0 hx hZ hown (host := "") (Or.inl (hw _ (List.mem_of_getElem? (i := 18) rfl))) Via.refl e0 F_count_r0 (g := (mkF m 1 #[rv r0, iv p1] [(.ref r0)])) rfl rfl (hb hby d3_1)
  have pre3 : ∀ t, Steps p.tables e below (T2.setTop (mkF m 9 #[rv r0, iv p1] [(.ref r0), (.int p1)])) t → Steps p.tables e below (s₁.setTop (entryFrame m #[(.ref r0), (.int p1)] 2)) t := by
    intro t kt
    refine pre1 _ ?_
    show Steps p.tables e below (s₁.setTop (mkF m 1 #[rv r0, iv p1] [(.ref r0)])) _
    refine st2 _ ?_
    show Steps p.tables e below (T2.setTop (mkF m 4 #[rv r0, iv p1] [(.int (2 : Int32))])) _
    refine XS.ifNo X2.here hx rfl (hb hby d3_4) rfl ((if0 _ _).trans (tlt (by decide)).2.2.2) ?_
    refine XS.iloadN X2.here hx rfl (hb hby d3_7) rfl ?_
    refine XS.aloadN X2.here hx rfl (hb hby d3_8) rfl rfl ?_
    exact kt
  obtain ⟨T4, X4, e4, st4⟩ := getF X2 hx hZ hown (host := "") (Or.inl (hw _ (List.mem_of_getElem? (i := 11) rfl))) Via.refl e2 F_offsets_r0 (g := (mkF m 9 #[rv r0, iv p1] [(.ref r0), (.int p1)])) rfl rfl (hb hby d3_9)
  have pre5 : ∀ t, Steps p.tables e below (T4.setTop (mkF m 13 #[rv r0, iv p1] [(.ref r0), (.ref ab), (.int p1)])) t → Steps p.tables e below (s₁.setTop (entryFrame m #[(.ref r0), (.int p1)] 2)) t := by
    intro t kt
    refine pre3 _ ?_
    show Steps p.tables e below (T2.setTop (mkF m 9 #[rv r0, iv p1] [(.ref r0), (.int p1)])) _
    refine st4 _ ?_
    show Steps p.tables e below (T4.setTop (mkF m 12 #[rv r0, iv p1] [(.ref ab), (.int p1)])) _
    refine XS.aloadN X4.here hx rfl (hb hby d3_12) rfl rfl ?_
    exact kt
  obtain ⟨T6, X6, e6, st6⟩ := getF X4 hx hZ hown (host := "") (Or.inl (hw _ (List.mem_of_getElem? (i := 18) rfl))) Via.refl e4 F_count_r0 (g := (mkF m 13 #[rv r0, iv p1] [(.ref r0), (.ref ab), (.int p1)])) rfl rfl (hb hby d3_13)
  obtain ⟨cl7, Ar7, q7, S7, M7, H7, G7⟩ := id V_ab
  have hin7 : ¬ ((1 : Int32) < 0 ∨ cl7.slots.size ≤ ((1 : Int32)).toNatClampNeg) := inb_of S7 ⟨by decide, by decide⟩
  have hat7 : cl7.slots[((1 : Int32)).toNatClampNeg]? = some (.int x1) := H7.at hin7 rfl
  have pre9 : ∀ t, Steps p.tables e below (T6.setTop (mkF m 19 #[rv r0, iv p1] [(.int x1), (.int p1)])) t → Steps p.tables e below (s₁.setTop (entryFrame m #[(.ref r0), (.int p1)] 2)) t := by
    intro t kt
    refine pre5 _ ?_
    show Steps p.tables e below (T4.setTop (mkF m 13 #[rv r0, iv p1] [(.ref r0), (.ref ab), (.int p1)])) _
    refine st6 _ ?_
    show Steps p.tables e below (T6.setTop (mkF m 16 #[rv r0, iv p1] [(.int (2 : Int32)), (.ref ab), (.int p1)])) _
    refine XS.iconst X6.here hx rfl (hb hby d3_16) ?_
    refine XS.isub X6.here hx rfl (hb hby d3_17) rfl ?_
    show Steps p.tables e below (T6.setTop (mkF m 18 #[rv r0, iv p1] [(.int ((2 : Int32) - (1 : Int32))), (.ref ab), (.int p1)])) _
    rw [show ((2 : Int32) - (1 : Int32)) = (1 : Int32) from (by decide)]
    show Steps p.tables e below (T6.setTop (mkF m 18 #[rv r0, iv p1] [(.int (1 : Int32)), (.ref ab), (.int p1)])) _
    refine X6.iaload hx (j := (1 : Int32)) (v := (.int x1)) (by rw [e6]; exact Ar7.1) (State.isArrayOf_alike hZ.alike Ar7.2.1) Ar7.2.2 hin7 hat7 (g := (mkF m 18 #[rv r0, iv p1] [(.int (1 : Int32)), (.ref ab), (.int p1)])) rfl rfl (hb hby d3_18) _ ?_
    exact kt
  have hc19_8 : x1 < p1 := hlt
  have pre10 : ∀ t, Steps p.tables e below (T6.setTop (mkF m 48 #[rv r0, iv p1] [(.ref r0)])) t → Steps p.tables e below (s₁.setTop (entryFrame m #[(.ref r0), (.int p1)] 2)) t := by
    intro t kt
    refine pre9 _ ?_
    show Steps p.tables e below (T6.setTop (mkF m 19 #[rv r0, iv p1] [(.int x1), (.int p1)])) _
    refine XS.icmpYes X6.here hx rfl (pc0 := 19) (pc' := 47) rfl (hb hby d3_19) rfl (tlt hc19_8).2.2.1 (by decide) (by decide) ?_
    refine XS.aloadN X6.here hx rfl (hb hby d3_47) rfl rfl ?_
    exact kt
  obtain ⟨T11, X11, e11, st11⟩ := getF X6 hx hZ hown (host := "") (Or.inl (hw _ (List.mem_of_getElem? (i := 18) rfl))) Via.refl e6 F_count_r0 (g := (mkF m 48 #[rv r0, iv p1] [(.ref r0)])) rfl rfl (hb hby d3_48)
  have pre12 : ∀ t, Steps p.tables e below (T11.setTop (mkF m 52 #[rv r0, iv p1] [(.ref r0), (.int (2 : Int32))])) t → Steps p.tables e below (s₁.setTop (entryFrame m #[(.ref r0), (.int p1)] 2)) t := by
    intro t kt
    refine pre10 _ ?_
    show Steps p.tables e below (T6.setTop (mkF m 48 #[rv r0, iv p1] [(.ref r0)])) _
    refine st11 _ ?_
    show Steps p.tables e below (T11.setTop (mkF m 51 #[rv r0, iv p1] [(.int (2 : Int32))])) _
    refine XS.aloadN X11.here hx rfl (hb hby d3_51) rfl rfl ?_
    exact kt
  obtain ⟨T13, X13, e13, st13⟩ := getF X11 hx hZ hown (host := "") (Or.inl (hw _ (List.mem_of_getElem? (i := 11) rfl))) Via.refl e11 F_offsets_r0 (g := (mkF m 52 #[rv r0, iv p1] [(.ref r0), (.int (2 : Int32))])) rfl rfl (hb hby d3_52)
  obtain ⟨cl14, Ar14, -, S14, M14, -, -⟩ := id V_ab
  have pre15 : ∀ t, Steps p.tables e below (T13.setTop (mkF m 77 #[rv r0, iv p1] [(.ref r0)])) t → Steps p.tables e below (s₁.setTop (entryFrame m #[(.ref r0), (.int p1)] 2)) t := by
    intro t kt
    refine pre12 _ ?_
    show Steps p.tables e below (T11.setTop (mkF m 52 #[rv r0, iv p1] [(.ref r0), (.int (2 : Int32))])) _
    refine st13 _ ?_
    show Steps p.tables e below (T13.setTop (mkF m 55 #[rv r0, iv p1] [(.ref ab), (.int (2 : Int32))])) _
    refine X13.arraylength hx (by rw [e13]; exact Ar14.1) (State.isArrayOf_alike hZ.alike Ar14.2.1) (g := (mkF m 55 #[rv r0, iv p1] [(.ref ab), (.int (2 : Int32))])) rfl rfl (hb hby d3_55) _ ?_
    rw [len_of S14 M14]
    show Steps p.tables e below (T13.setTop (mkF m 56 #[rv r0, iv p1] [(.int (16 : Int32)), (.int (2 : Int32))])) _
    refine XS.icmpYes X13.here hx rfl (pc0 := 56) (pc' := 76) rfl (hb hby d3_56) rfl (feq (by decide)).2 (by decide) (by decide) ?_
    refine XS.aloadN X13.here hx rfl (hb hby d3_76) rfl rfl ?_
    exact kt
  obtain ⟨T16, X16, e16, st16⟩ := getF X13 hx hZ hown (host := "") (Or.inl (hw _ (List.mem_of_getElem? (i := 11) rfl))) Via.refl e13 F_offsets_r0 (g := (mkF m 77 #[rv r0, iv p1] [(.ref r0)])) rfl rfl (hb hby d3_77)
  have pre17 : ∀ t, Steps p.tables e below (T16.setTop (mkF m 81 #[rv r0, iv p1] [(.ref r0), (.ref ab)])) t → Steps p.tables e below (s₁.setTop (entryFrame m #[(.ref r0), (.int p1)] 2)) t := by
    intro t kt
    refine pre15 _ ?_
    show Steps p.tables e below (T13.setTop (mkF m 77 #[rv r0, iv p1] [(.ref r0)])) _
    refine st16 _ ?_
    show Steps p.tables e below (T16.setTop (mkF m 80 #[rv r0, iv p1] [(.ref ab)])) _
    refine XS.aloadN X16.here hx rfl (hb hby d3_80) rfl rfl ?_
    exact kt
  obtain ⟨T18, X18, e18, st18⟩ := getF X16 hx hZ hown (host := "") (Or.inl (hw _ (List.mem_of_getElem? (i := 18) rfl))) Via.refl e16 F_count_r0 (g := (mkF m 81 #[rv r0, iv p1] [(.ref r0), (.ref ab)])) rfl rfl (hb hby d3_81)
  have pre19 : ∀ t, Steps p.tables e below (T18.setTop (mkF m 85 #[rv r0, iv p1] [(.int p1), (.int (2 : Int32)), (.ref ab)])) t → Steps p.tables e below (s₁.setTop (entryFrame m #[(.ref r0), (.int p1)] 2)) t := by
    intro t kt
    refine pre17 _ ?_
    show Steps p.tables e below (T16.setTop (mkF m 81 #[rv r0, iv p1] [(.ref r0), (.ref ab)])) _
    refine st18 _ ?_
    show Steps p.tables e below (T18.setTop (mkF m 84 #[rv r0, iv p1] [(.int (2 : Int32)), (.ref ab)])) _
    refine XS.iloadN X18.here hx rfl (hb hby d3_84) rfl ?_
    exact kt
  obtain ⟨cl20, Ar20, q20, S20, M20, H20, G20⟩ := id V_ab
  have hin20 : ¬ ((2 : Int32) < 0 ∨ cl20.slots.size ≤ ((2 : Int32)).toNatClampNeg) := inb_of S20 ⟨by decide, by decide⟩
  obtain ⟨T20, h20, X20, e20, W20, st20⟩ := stI X18 hx hZ e18 Ar20 (j := (2 : Int32)) hin20 (g := (mkF m 85 #[rv r0, iv p1] [(.int p1), (.int (2 : Int32)), (.ref ab)])) rfl rfl (hb hby d3_85)
  have V20 : Arv Z h20 ab kc .int (16 : Int32) [(.int x0), (.int x1), (.int p1), (.int x3), (.int (0 : Int32)), (.int (0 : Int32)), (.int (0 : Int32)), (.int (0 : Int32)), (.int (0 : Int32)), (.int (0 : Int32)), (.int (0 : Int32)), (.int (0 : Int32)), (.int (0 : Int32)), (.int (0 : Int32)), (.int (0 : Int32)), (.int (0 : Int32))] (.int (0 : Int32)) := Arv.set Ar20 q20 S20 M20 H20 G20 rfl W20 2 rfl (Nat.le_of_ble_eq_true rfl)
  have K20 : Keep h0 h20 [r0, ab] := (Keep.refl h0 [r0, ab]).wr W20 (Or.inl (List.mem_of_getElem? (i := 1) rfl))
  have N20 := Fr.snoc X20 N0 g_ab
  have pre21 : ∀ t, Steps p.tables e below (T20.setTop (mkF m 88 #[rv r0, iv p1] [(.ref r0), (.ref r0)])) t → Steps p.tables e below (s₁.setTop (entryFrame m #[(.ref r0), (.int p1)] 2)) t := by
    intro t kt
    refine pre19 _ ?_
    show Steps p.tables e below (T18.setTop (mkF m 85 #[rv r0, iv p1] [(.int p1), (.int (2 : Int32)), (.ref ab)])) _
    refine st20 _ ?_
    show Steps p.tables e below (T20.setTop (mkF m 86 #[rv r0, iv p1] [])) _
    refine XS.aloadN X20.here hx rfl (hb hby d3_86) rfl rfl ?_
    refine XS.dup X20.here hx rfl (hb hby d3_87) rfl rfl ?_
    exact kt
  obtain ⟨T22, X22, e22, st22⟩ := getF X20 hx hZ hown (host := "") (Or.inl (hw _ (List.mem_of_getElem? (i := 18) rfl))) Via.refl e20 (F_count_r0.other W20 (Or.inl hne)) (g := (mkF m 88 #[rv r0, iv p1] [(.ref r0), (.ref r0)])) rfl rfl (hb hby d3_88)
  have pre23 : ∀ t, Steps p.tables e below (T22.setTop (mkF m 94 #[rv r0, iv p1] [(.int (3 : Int32)), (.ref r0), (.int (2 : Int32))])) t → Steps p.tables e below (s₁.setTop (entryFrame m #[(.ref r0), (.int p1)] 2)) t := by
    intro t kt
    refine pre21 _ ?_
    show Steps p.tables e below (T20.setTop (mkF m 88 #[rv r0, iv p1] [(.ref r0), (.ref r0)])) _
    refine st22 _ ?_
    show Steps p.tables e below (T22.setTop (mkF m 91 #[rv r0, iv p1] [(.int (2 : Int32)), (.ref r0)])) _
    refine XS.dupX1 X22.here hx rfl (hb hby d3_91) rfl rfl rfl ?_
    refine XS.iconst X22.here hx rfl (hb hby d3_92) ?_
    refine XS.iadd X22.here hx rfl (hb hby d3_93) rfl ?_
    show Steps p.tables e below (T22.setTop (mkF m 94 #[rv r0, iv p1] [(.int ((2 : Int32) + (1 : Int32))), (.ref r0), (.int (2 : Int32))])) _
    rw [show ((2 : Int32) + (1 : Int32)) = (3 : Int32) from (by decide)]
    exact kt
  obtain ⟨T24, h24, X24, e24, W24, st24⟩ := putF X22 hx hZ hown (host := "") (Or.inl (hw _ (List.mem_of_getElem? (i := 18) rfl))) Via.refl e22 (F_count_r0.other W20 (Or.inl hne)) (E_r0.wr W20) (Or.inl (hw _ (List.mem_of_getElem? (i := 19) rfl))) (hw _ (List.mem_of_getElem? (i := 2) rfl)) (ty := .int) (by decide) rfl rfl (g := (mkF m 94 #[rv r0, iv p1] [(.int (3 : Int32)), (.ref r0), (.int (2 : Int32))])) rfl rfl (hb hby d3_94)
  have Fw24 : Fld Z h24 r0 "com/example/bytewright/bytewright/grid/ObjectStarts" "count" "I" (.int (3 : Int32)) := (F_count_r0.other W20 (Or.inl hne)).same W24
  have K24 : Keep h0 h24 [r0, ab] := K20.wr W24 (Or.inl (List.mem_of_getElem? (i := 0) rfl))
  have N24 := Fr.snoc X24 N20 g_r0
  have pre25 : ∀ t, Steps p.tables e below (T24.setTop (mkF m 97 #[rv r0, iv p1] [(.int (2 : Int32))])) t → Steps p.tables e below (s₁.setTop (entryFrame m #[(.ref r0), (.int p1)] 2)) t := by
    intro t kt
    refine pre23 _ ?_
    show Steps p.tables e below (T22.setTop (mkF m 94 #[rv r0, iv p1] [(.int (3 : Int32)), (.ref r0), (.int (2 : Int32))])) _
    refine st24 _ ?_
    exact kt
  obtain ⟨fs, hr, hrun, hended, hW, hsame⟩ := X24.leave (v := some (.int (2 : Int32))) (fun h => by rw [Bd.returns] at h; cases h)
  refine ⟨_, _, pre25 _ ?_, hrun, hended, _, _, rfl, ?_, ⟨_, rfl⟩, hW, hsame.mono (by decide) (by decide)⟩
  · show Steps p.tables e below (T24.setTop (mkF m 97 #[rv r0, iv p1] [(.int (2 : Int32))])) _
    exact retI X24 hx Bd.returns (hb hby d3_97) hr
  · show Q3c2 Z r0 p1 ab kc x0 x1 x2 x3 h0 n0 _ T24.heap _
    rw [e24]
    exact ⟨rfl, N24, K24, ((F_offsets_r0.other W20 (Or.inl hne)).other W24 (Or.inr (slot_ne (Or.inl (hw _ (List.mem_of_getElem? (i := 12) rfl))) (Or.inl (hw _ (List.mem_of_getElem? (i := 19) rfl))) (by decide) (t := (.array .int)) (t' := .int) (by decide) (by decide)))), Fw24, (V20.other W24 (Ne.symm hne))⟩

theorem ef_3c3 (m : MethodId) (x0 : Addr) (x1 : Int32) : entryFrame m #[(.ref x0), (.int x1)] 2 = mkF m 0 #[.val (.ref x0), .val (.int x1)] [] := by first | (simp [entryFrame, mkF, argsToLocals, Value.category]; done) | rfl
def Q3c3 (Z : State) (r0 : Addr) (p1 : Int32) (ab : Addr) (kc : ClassId) (x0 : Int32) (x1 : Int32) (x2 : Int32) (x3 : Int32) (h0 : Heap) (n0 : Nat) (v : Option Value) (h : Heap) (L : List Loc) : Prop := v = some (.int (3 : Int32)) ∧ Fr n0 L ∧ Keep h0 h [r0, ab] ∧ Fld Z h r0 "com/example/bytewright/bytewright/grid/ObjectStarts" "offsets" "[I" (.ref ab) ∧ Fld Z h r0 "com/example/bytewright/bytewright/grid/ObjectStarts" "count" "I" (.int (4 : Int32)) ∧ Arv Z h ab kc .int (16 : Int32) [(.int x0), (.int x1), (.int x2), (.int p1), (.int (0 : Int32)), (.int (0 : Int32)), (.int (0 : Int32)), (.int (0 : Int32)), (.int (0 : Int32)), (.int (0 : Int32)), (.int (0 : Int32)), (.int (0 : Int32)), (.int (0 : Int32)), (.int (0 : Int32)), (.int (0 : Int32)), (.int (0 : Int32))] (.int (0 : Int32))
set_option maxRecDepth 65536 in
set_option maxHeartbeats 40000000 in
theorem rm3c3 (l : Launch) (Z : State) (a0 : Array Value) (hw : ∀ d ∈ tables_1, d.before a0 Z = true) (ws : List Jvm.Cond) (r0 : Addr) (p1 : Int32) (ab : Addr) (kc : ClassId) (x0 : Int32) (x1 : Int32) (x2 : Int32) (x3 : Int32) (h0 : Heap) (n0 : Nat) (Z0 : n0 ≤ h0.size) (F_offsets_r0 : Fld Z h0 r0 "com/example/bytewright/bytewright/grid/ObjectStarts" "offsets" "[I" (.ref ab)) (F_count_r0 : Fld Z h0 r0 "com/example/bytewright/bytewright/grid/ObjectStarts" "count" "I" (.int (3 : Int32))) (E_r0 : Exa Z h0 r0 "com/example/bytewright/bytewright/grid/ObjectStarts") (g_r0 : n0 ≤ r0) (V_ab : Arv Z h0 ab kc .int (16 : Int32) [(.int x0), (.int x1), (.int x2), (.int x3), (.int (0 : Int32)), (.int (0 : Int32)), (.int (0 : Int32)), (.int (0 : Int32)), (.int (0 : Int32)), (.int (0 : Int32)), (.int (0 : Int32)), (.int (0 : Int32)), (.int (0 : Int32)), (.int (0 : Int32)), (.int (0 : Int32)), (.int (0 : Int32))] (.int (0 : Int32))) (g_ab : n0 ≤ ab) (hne : r0 ≠ ab) (hlt : x2 < p1) :
    MetFree l (⟨"com/example/bytewright/bytewright/grid/ObjectStarts", "add", "(I)I"⟩ : MethodName) (head1 (Jvm.Cond.code (⟨"com/example/bytewright/bytewright/grid/ObjectStarts", "add", "(I)I"⟩ : MethodName) prog_53_method_2_code 2 (some .int) :: ws) ({ frames := 0, cells := 0, slots := 0, locals := 0 } : Room)) (fun a U => a = #[(.ref r0), (.int p1)] ∧ Z.Warmed39 U.vm ∧ U.heap = h0) (fun _ _ _ _ _ => True) (fun _ U o U' => ∃ v L, o = .returned v ∧ Q3c3 Z r0 p1 ab kc x0 x1 x2 x3 h0 n0 v U'.heap L ∧ FrameEnd U o U' L ({ frames := 0, cells := 0, slots := 0, locals := 0 } : Room).cells ({ frames := 0, cells := 0, slots := 0, locals := 0 } : Room).slots) := by
  refine MetFree.of_bodySF (plainFor_of_name pn0) hisR ?_
  intro p e s m args below meth c s₁ Bd hml0 hP hK
  obtain ⟨rfl, hZ, hh⟩ := hP
  have hx := Bd.exec
  have hby := Bd.bytes
  have hml : c.maxLocals = 2 := hml0
  have hown : s.vm.findClass "com/example/bytewright/bytewright/grid/ObjectStarts" = some m.cls := findClass_of_methodNamed Bd.named
  have hnm := (name_of_methodNamed Bd.named Bd.method).1
  have X0 : Stand p l e ({ frames := 0, cells := 0, slots := 0, locals := 0 } : Room) s m #[(.ref r0), (.int p1)] below meth c s₁ [] 0 0 := Stand.of_body Bd
  have e0 : s₁.heap = h0 := by rw [← hh, Bd.state]; rfl
  have N0 := Fr.nil n0
  have pre0 : ∀ t, Steps p.tables e below (s₁.setTop (mkF m 0 #[rv r0, iv p1] [])) t → Steps p.tables e below (s₁.setTop (entryFrame m #[(.ref r0), (.int p1)] 2)) t := fun t k => castTop (ef_3c3 m r0 p1) k
  have pre1 : ∀ t, Steps p.tables e below (s₁.setTop (mkF m 1 #[rv r0, iv p1] [(.ref r0)])) t → Steps p.tables e below (s₁.setTop (entryFrame m #[(.ref r0), (.int p1)] 2)) t := by
    intro t kt
    refine pre0 _ ?_
    show Steps p.tables e below (s₁.setTop (mkF m 0 #[rv r0, iv p1] [])) _
    refine XS.aloadN X0.here hx rfl (hb hby d3_0) rfl rfl ?_
    exact kt
  obtain ⟨T2, X2, e2, st2⟩ := getF X0 hx hZ hown (host := "") (Or.inl (hw _ (List.mem_of_getElem? (i := 18) rfl))) Via.refl e0 F_count_r0 (g := (mkF m 1 #[rv r0, iv p1] [(.ref r0)])) rfl rfl (hb hby d3_1)
  have pre3 : ∀ t, Steps p.tables e below (T2.setTop (mkF m 9 #[rv r0, iv p1] [(.ref r0), (.int p1)])) t → Steps p.tables e below (s₁.setTop (entryFrame m #[(.ref r0), (.int p1)] 2)) t := by
    intro t kt
    refine pre1 _ ?_
    show Steps p.tables e below (s₁.setTop (mkF m 1 #[rv r0, iv p1] [(.ref r0)])) _
    refine st2 _ ?_
    show Steps p.tables e below (T2.setTop (mkF m 4 #[rv r0, iv p1] [(.int (3 : Int32))])) _
    refine XS.ifNo X2.here hx rfl (hb hby d3_4) rfl ((if0 _ _).trans (tlt (by decide)).2.2.2) ?_
    refine XS.iloadN X2.here hx rfl (hb hby d3_7) rfl ?_
    refine XS.aloadN X2.here hx rfl (hb hby d3_8) rfl rfl ?_
    exact kt
  obtain ⟨T4, X4, e4, st4⟩ := getF X2 hx hZ hown (host := "") (Or.inl (hw _ (List.mem_of_getElem? (i := 11) rfl))) Via.refl e2 F_offsets_r0 (g := (mkF m 9 #[rv r0, iv p1] [(.ref r0), (.int p1)])) rfl rfl (hb hby d3_9)
  have pre5 : ∀ t, Steps p.tables e below (T4.setTop (mkF m 13 #[rv r0, iv p1] [(.ref r0), (.ref ab), (.int p1)])) t → Steps p.tables e below (s₁.setTop (entryFrame m #[(.ref r0), (.int p1)] 2)) t := by
    intro t kt
    refine pre3 _ ?_
    show Steps p.tables e below (T2.setTop (mkF m 9 #[rv r0, iv p1] [(.ref r0), (.int p1)])) _
    refine st4 _ ?_
    show Steps p.tables e below (T4.setTop (mkF m 12 #[rv r0, iv p1] [(.ref ab), (.int p1)])) _
    refine XS.aloadN X4.here hx rfl (hb hby d3_12) rfl rfl ?_
    exact kt
  obtain ⟨T6, X6, e6, st6⟩ := getF X4 hx hZ hown (host := "") (Or.inl (hw _ (List.mem_of_getElem? (i := 18) rfl))) Via.refl e4 F_count_r0 (g := (mkF m 13 #[rv r0, iv p1] [(.ref r0), (.ref ab), (.int p1)])) rfl rfl (hb hby d3_13)
  obtain ⟨cl7, Ar7, q7, S7, M7, H7, G7⟩ := id V_ab
  have hin7 : ¬ ((2 : Int32) < 0 ∨ cl7.slots.size ≤ ((2 : Int32)).toNatClampNeg) := inb_of S7 ⟨by decide, by decide⟩
  have hat7 : cl7.slots[((2 : Int32)).toNatClampNeg]? = some (.int x2) := H7.at hin7 rfl
  have pre9 : ∀ t, Steps p.tables e below (T6.setTop (mkF m 19 #[rv r0, iv p1] [(.int x2), (.int p1)])) t → Steps p.tables e below (s₁.setTop (entryFrame m #[(.ref r0), (.int p1)] 2)) t := by
    intro t kt
    refine pre5 _ ?_
    show Steps p.tables e below (T4.setTop (mkF m 13 #[rv r0, iv p1] [(.ref r0), (.ref ab), (.int p1)])) _
    refine st6 _ ?_
    show Steps p.tables e below (T6.setTop (mkF m 16 #[rv r0, iv p1] [(.int (3 : Int32)), (.ref ab), (.int p1)])) _
    refine XS.iconst X6.here hx rfl (hb hby d3_16) ?_
    refine XS.isub X6.here hx rfl (hb hby d3_17) rfl ?_
    show Steps p.tables e below (T6.setTop (mkF m 18 #[rv r0, iv p1] [(.int ((3 : Int32) - (1 : Int32))), (.ref ab), (.int p1)])) _
    rw [show ((3 : Int32) - (1 : Int32)) = (2 : Int32) from (by decide)]
    show Steps p.tables e below (T6.setTop (mkF m 18 #[rv r0, iv p1] [(.int (2 : Int32)), (.ref ab), (.int p1)])) _
    refine X6.iaload hx (j := (2 : Int32)) (v := (.int x2)) (by rw [e6]; exact Ar7.1) (State.isArrayOf_alike hZ.alike Ar7.2.1) Ar7.2.2 hin7 hat7 (g := (mkF m 18 #[rv r0, iv p1] [(.int (2 : Int32)), (.ref ab), (.int p1)])) rfl rfl (hb hby d3_18) _ ?_
    exact kt
  have hc19_8 : x2 < p1 := hlt
  have pre10 : ∀ t, Steps p.tables e below (T6.setTop (mkF m 48 #[rv r0, iv p1] [(.ref r0)])) t → Steps p.tables e below (s₁.setTop (entryFrame m #[(.ref r0), (.int p1)] 2)) t := by
    intro t kt
    refine pre9 _ ?_
    show Steps p.tables e below (T6.setTop (mkF m 19 #[rv r0, iv p1] [(.int x2), (.int p1)])) _
    refine XS.icmpYes X6.here hx rfl (pc0 := 19) (pc' := 47) rfl (hb hby d3_19) rfl (tlt hc19_8).2.2.1 (by decide) (by decide) ?_
    refine XS.aloadN X6.here hx rfl (hb hby d3_47) rfl rfl ?_
    exact kt
  obtain ⟨T11, X11, e11, st11⟩ := getF X6 hx hZ hown (host := "") (Or.inl (hw _ (List.mem_of_getElem? (i := 18) rfl))) Via.refl e6 F_count_r0 (g := (mkF m 48 #[rv r0, iv p1] [(.ref r0)])) rfl rfl (hb hby d3_48)
  have pre12 : ∀ t, Steps p.tables e below (T11.setTop (mkF m 52 #[rv r0, iv p1] [(.ref r0), (.int (3 : Int32))])) t → Steps p.tables e below (s₁.setTop (entryFrame m #[(.ref r0), (.int p1)] 2)) t := by
    intro t kt
    refine pre10 _ ?_
    show Steps p.tables e below (T6.setTop (mkF m 48 #[rv r0, iv p1] [(.ref r0)])) _
    refine st11 _ ?_
    show Steps p.tables e below (T11.setTop (mkF m 51 #[rv r0, iv p1] [(.int (3 : Int32))])) _
    refine XS.aloadN X11.here hx rfl (hb hby d3_51) rfl rfl ?_
    exact kt
  obtain ⟨T13, X13, e13, st13⟩ := getF X11 hx hZ hown (host := "") (Or.inl (hw _ (List.mem_of_getElem? (i := 11) rfl))) Via.refl e11 F_offsets_r0 (g := (mkF m 52 #[rv r0, iv p1] [(.ref r0), (.int (3 : Int32))])) rfl rfl (hb hby d3_52)
  obtain ⟨cl14, Ar14, -, S14, M14, -, -⟩ := id V_ab
  have pre15 : ∀ t, Steps p.tables e below (T13.setTop (mkF m 77 #[rv r0, iv p1] [(.ref r0)])) t → Steps p.tables e below (s₁.setTop (entryFrame m #[(.ref r0), (.int p1)] 2)) t := by
    intro t kt
    refine pre12 _ ?_
    show Steps p.tables e below (T11.setTop (mkF m 52 #[rv r0, iv p1] [(.ref r0), (.int (3 : Int32))])) _
    refine st13 _ ?_
    show Steps p.tables e below (T13.setTop (mkF m 55 #[rv r0, iv p1] [(.ref ab), (.int (3 : Int32))])) _
    refine X13.arraylength hx (by rw [e13]; exact Ar14.1) (State.isArrayOf_alike hZ.alike Ar14.2.1) (g := (mkF m 55 #[rv r0, iv p1] [(.ref ab), (.int (3 : Int32))])) rfl rfl (hb hby d3_55) _ ?_
    rw [len_of S14 M14]
    show Steps p.tables e below (T13.setTop (mkF m 56 #[rv r0, iv p1] [(.int (16 : Int32)), (.int (3 : Int32))])) _
    refine XS.icmpYes X13.here hx rfl (pc0 := 56) (pc' := 76) rfl (hb hby d3_56) rfl (feq (by decide)).2 (by decide) (by decide) ?_
    refine XS.aloadN X13.here hx rfl (hb hby d3_76) rfl rfl ?_
    exact kt
  obtain ⟨T16, X16, e16, st16⟩ := getF X13 hx hZ hown (host := "") (Or.inl (hw _ (List.mem_of_getElem? (i := 11) rfl))) Via.refl e13 F_offsets_r0 (g := (mkF m 77 #[rv r0, iv p1] [(.ref r0)])) rfl rfl (hb hby d3_77)
  have pre17 : ∀ t, Steps p.tables e below (T16.setTop (mkF m 81 #[rv r0, iv p1] [(.ref r0), (.ref ab)])) t → Steps p.tables e below (s₁.setTop (entryFrame m #[(.ref r0), (.int p1)] 2)) t := by
    intro t kt
    refine pre15 _ ?_
    show Steps p.tables e below (T13.setTop (mkF m 77 #[rv r0, iv p1] [(.ref r0)])) _
    refine st16 _ ?_
    show Steps p.tables e below (T16.setTop (mkF m 80 #[rv r0, iv p1] [(.ref ab)])) _
    refine XS.aloadN X16.here hx rfl (hb hby d3_80) rfl rfl ?_
    exact kt
  obtain ⟨T18, X18, e18, st18⟩ := getF X16 hx hZ hown (host := "") (Or.inl (hw _ (List.mem_of_getElem? (i := 18) rfl))) Via.refl e16 F_count_r0 (g := (mkF m 81 #[rv r0, iv p1] [(.ref r0), (.ref ab)])) rfl rfl (hb hby d3_81)
  have pre19 : ∀ t, Steps p.tables e below (T18.setTop (mkF m 85 #[rv r0, iv p1] [(.int p1), (.int (3 : Int32)), (.ref ab)])) t → Steps p.tables e below (s₁.setTop (entryFrame m #[(.ref r0), (.int p1)] 2)) t := by
    intro t kt
    refine pre17 _ ?_
    show Steps p.tables e below (T16.setTop (mkF m 81 #[rv r0, iv p1] [(.ref r0), (.ref ab)])) _
    refine st18 _ ?_
    show Steps p.tables e below (T18.setTop (mkF m 84 #[rv r0, iv p1] [(.int (3 : Int32)), (.ref ab)])) _
    refine XS.iloadN X18.here hx rfl (hb hby d3_84) rfl ?_
    exact kt
  obtain ⟨cl20, Ar20, q20, S20, M20, H20, G20⟩ := id V_ab
  have hin20 : ¬ ((3 : Int32) < 0 ∨ cl20.slots.size ≤ ((3 : Int32)).toNatClampNeg) := inb_of S20 ⟨by decide, by decide⟩
  obtain ⟨T20, h20, X20, e20, W20, st20⟩ := stI X18 hx hZ e18 Ar20 (j := (3 : Int32)) hin20 (g := (mkF m 85 #[rv r0, iv p1] [(.int p1), (.int (3 : Int32)), (.ref ab)])) rfl rfl (hb hby d3_85)
  have V20 : Arv Z h20 ab kc .int (16 : Int32) [(.int x0), (.int x1), (.int x2), (.int p1), (.int (0 : Int32)), (.int (0 : Int32)), (.int (0 : Int32)), (.int (0 : Int32)), (.int (0 : Int32)), (.int (0 : Int32)), (.int (0 : Int32)), (.int (0 : Int32)), (.int (0 : Int32)), (.int (0 : Int32)), (.int (0 : Int32)), (.int (0 : Int32))] (.int (0 : Int32)) := Arv.set Ar20 q20 S20 M20 H20 G20 rfl W20 3 rfl (Nat.le_of_ble_eq_true rfl)
  have K20 : Keep h0 h20 [r0, ab] := (Keep.refl h0 [r0, ab]).wr W20 (Or.inl (List.mem_of_getElem? (i := 1) rfl))
  have N20 := Fr.snoc X20 N0 g_ab
  have pre21 : ∀ t, Steps p.tables e below (T20.setTop (mkF m 88 #[rv r0, iv p1] [(.ref r0), (.ref r0)])) t → Steps p.tables e below (s₁.setTop (entryFrame m #[(.ref r0), (.int p1)] 2)) t := by
    intro t kt
    refine pre19 _ ?_
    show Steps p.tables e below (T18.setTop (mkF m 85 #[rv r0, iv p1] [(.int p1), (.int (3 : Int32)), (.ref ab)])) _
    refine st20 _ ?_
    show Steps p.tables e below (T20.setTop (mkF m 86 #[rv r0, iv p1] [])) _
    refine XS.aloadN X20.here hx rfl (hb hby d3_86) rfl rfl ?_
    refine XS.dup X20.here hx rfl (hb hby d3_87) rfl rfl ?_
    exact kt
  obtain ⟨T22, X22, e22, st22⟩ := getF X20 hx hZ hown (host := "") (Or.inl (hw _ (List.mem_of_getElem? (i := 18) rfl))) Via.refl e20 (F_count_r0.other W20 (Or.inl hne)) (g := (mkF m 88 #[rv r0, iv p1] [(.ref r0), (.ref r0)])) rfl rfl (hb hby d3_88)
  have pre23 : ∀ t, Steps p.tables e below (T22.setTop (mkF m 94 #[rv r0, iv p1] [(.int (4 : Int32)), (.ref r0), (.int (3 : Int32))])) t → Steps p.tables e below (s₁.setTop (entryFrame m #[(.ref r0), (.int p1)] 2)) t := by
    intro t kt
    refine pre21 _ ?_
    show Steps p.tables e below (T20.setTop (mkF m 88 #[rv r0, iv p1] [(.ref r0), (.ref r0)])) _
    refine st22 _ ?_
    show Steps p.tables e below (T22.setTop (mkF m 91 #[rv r0, iv p1] [(.int (3 : Int32)), (.ref r0)])) _
    refine XS.dupX1 X22.here hx rfl (hb hby d3_91) rfl rfl rfl ?_
    refine XS.iconst X22.here hx rfl (hb hby d3_92) ?_
    refine XS.iadd X22.here hx rfl (hb hby d3_93) rfl ?_
    show Steps p.tables e below (T22.setTop (mkF m 94 #[rv r0, iv p1] [(.int ((3 : Int32) + (1 : Int32))), (.ref r0), (.int (3 : Int32))])) _
    rw [show ((3 : Int32) + (1 : Int32)) = (4 : Int32) from (by decide)]
    exact kt
  obtain ⟨T24, h24, X24, e24, W24, st24⟩ := putF X22 hx hZ hown (host := "") (Or.inl (hw _ (List.mem_of_getElem? (i := 18) rfl))) Via.refl e22 (F_count_r0.other W20 (Or.inl hne)) (E_r0.wr W20) (Or.inl (hw _ (List.mem_of_getElem? (i := 19) rfl))) (hw _ (List.mem_of_getElem? (i := 2) rfl)) (ty := .int) (by decide) rfl rfl (g := (mkF m 94 #[rv r0, iv p1] [(.int (4 : Int32)), (.ref r0), (.int (3 : Int32))])) rfl rfl (hb hby d3_94)
  have Fw24 : Fld Z h24 r0 "com/example/bytewright/bytewright/grid/ObjectStarts" "count" "I" (.int (4 : Int32)) := (F_count_r0.other W20 (Or.inl hne)).same W24
  have K24 : Keep h0 h24 [r0, ab] := K20.wr W24 (Or.inl (List.mem_of_getElem? (i := 0) rfl))
  have N24 := Fr.snoc X24 N20 g_r0
  have pre25 : ∀ t, Steps p.tables e below (T24.setTop (mkF m 97 #[rv r0, iv p1] [(.int (3 : Int32))])) t → Steps p.tables e below (s₁.setTop (entryFrame m #[(.ref r0), (.int p1)] 2)) t := by
    intro t kt
    refine pre23 _ ?_
    show Steps p.tables e below (T22.setTop (mkF m 94 #[rv r0, iv p1] [(.int (4 : Int32)), (.ref r0), (.int (3 : Int32))])) _
    refine st24 _ ?_
    exact kt
  obtain ⟨fs, hr, hrun, hended, hW, hsame⟩ := X24.leave (v := some (.int (3 : Int32))) (fun h => by rw [Bd.returns] at h; cases h)
  refine ⟨_, _, pre25 _ ?_, hrun, hended, _, _, rfl, ?_, ⟨_, rfl⟩, hW, hsame.mono (by decide) (by decide)⟩
  · show Steps p.tables e below (T24.setTop (mkF m 97 #[rv r0, iv p1] [(.int (3 : Int32))])) _
    exact retI X24 hx Bd.returns (hb hby d3_97) hr
  · show Q3c3 Z r0 p1 ab kc x0 x1 x2 x3 h0 n0 _ T24.heap _
    rw [e24]
    exact ⟨rfl, N24, K24, ((F_offsets_r0.other W20 (Or.inl hne)).other W24 (Or.inr (slot_ne (Or.inl (hw _ (List.mem_of_getElem? (i := 12) rfl))) (Or.inl (hw _ (List.mem_of_getElem? (i := 19) rfl))) (by decide) (t := (.array .int)) (t' := .int) (by decide) (by decide)))), Fw24, (V20.other W24 (Ne.symm hne))⟩
theorem d4_0 : decode prog_53_method_3_code 0 = .ok (.aload_n 0, 1) := by decide +kernel
theorem d4_1 : decode prog_53_method_3_code 1 = .ok (.getfield 13, 3) := by decide +kernel
theorem d4_4 : decode prog_53_method_3_code 4 = .ok (.ifCond .le 31, 3) := by decide +kernel
theorem d4_35 : decode prog_53_method_3_code 35 = .ok (.return_, 1) := by decide +kernel
theorem ef_4c0 (m : MethodId) (x0 : Addr) (x1 : Int32) : entryFrame m #[(.ref x0), (.int x1)] 2 = mkF m 0 #[.val (.ref x0), .val (.int x1)] [] := by first | (simp [entryFrame, mkF, argsToLocals, Value.category]; done) | rfl
def Q4c0 (Z : State) (r0 : Addr) (p1 : Int32) (ab : Addr) (kc : ClassId) (x0 : Int32) (x1 : Int32) (x2 : Int32) (x3 : Int32) (h0 : Heap) (n0 : Nat) (v : Option Value) (h : Heap) (L : List Loc) : Prop := ∃ kk, v = none ∧ Fr n0 L ∧ Keep h0 h [r0, ab] ∧ Fld Z h r0 "com/example/bytewright/bytewright/grid/ObjectStarts" "offsets" "[I" (.ref ab) ∧ Fld Z h r0 "com/example/bytewright/bytewright/grid/ObjectStarts" "count" "I" (.int kk) ∧ Arv Z h ab kc .int (16 : Int32) [(.int x0), (.int x1), (.int x2), (.int x3), (.int (0 : Int32)), (.int (0 : Int32)), (.int (0 : Int32)), (.int (0 : Int32)), (.int (0 : Int32)), (.int (0 : Int32)), (.int (0 : Int32)), (.int (0 : Int32)), (.int (0 : Int32)), (.int (0 : Int32)), (.int (0 : Int32)), (.int (0 : Int32))] (.int (0 : Int32)) ∧ ((kk = (0 : Int32)))
set_option maxRecDepth 65536 in
set_option maxHeartbeats 40000000 in
theorem rm4c0 (l : Launch) (Z : State) (a0 : Array Value) (hw : ∀ d ∈ tables_1, d.before a0 Z = true) (ws : List Jvm.Cond) (r0 : Addr) (p1 : Int32) (ab : Addr) (kc : ClassId) (x0 : Int32) (x1 : Int32) (x2 : Int32) (x3 : Int32) (h0 : Heap) (n0 : Nat) (Z0 : n0 ≤ h0.size) (F_offsets_r0 : Fld Z h0 r0 "com/example/bytewright/bytewright/grid/ObjectStarts" "offsets" "[I" (.ref ab)) (F_count_r0 : Fld Z h0 r0 "com/example/bytewright/bytewright/grid/ObjectStarts" "count" "I" (.int (0 : Int32))) (E_r0 : Exa Z h0 r0 "com/example/bytewright/bytewright/grid/ObjectStarts") (g_r0 : n0 ≤ r0) (V_ab : Arv Z h0 ab kc .int (16 : Int32) [(.int x0), (.int x1), (.int x2), (.int x3), (.int (0 : Int32)), (.int (0 : Int32)), (.int (0 : Int32)), (.int (0 : Int32)), (.int (0 : Int32)), (.int (0 : Int32)), (.int (0 : Int32)), (.int (0 : Int32)), (.int (0 : Int32)), (.int (0 : Int32)), (.int (0 : Int32)), (.int (0 : Int32))] (.int (0 : Int32))) (g_ab : n0 ≤ ab) (hne : r0 ≠ ab) :
    MetFree l (⟨"com/example/bytewright/bytewright/grid/ObjectStarts", "forgetFrom", "(I)V"⟩ : MethodName) (head1 (Jvm.Cond.code (⟨"com/example/bytewright/bytewright/grid/ObjectStarts", "forgetFrom", "(I)V"⟩ : MethodName) prog_53_method_3_code 2 none :: ws) ({ frames := 0, cells := 0, slots := 0, locals := 0 } : Room)) (fun a U => a = #[(.ref r0), (.int p1)] ∧ Z.Warmed39 U.vm ∧ U.heap = h0) (fun _ _ _ _ _ => True) (fun _ U o U' => ∃ v L, o = .returned v ∧ Q4c0 Z r0 p1 ab kc x0 x1 x2 x3 h0 n0 v U'.heap L ∧ FrameEnd U o U' L ({ frames := 0, cells := 0, slots := 0, locals := 0 } : Room).cells ({ frames := 0, cells := 0, slots := 0, locals := 0 } : Room).slots) := by
  refine MetFree.of_bodySF (plainFor_of_name pn0) hisR ?_
  intro p e s m args below meth c s₁ Bd hml0 hP hK
  obtain ⟨rfl, hZ, hh⟩ := hP
  have hx := Bd.exec
  have hby := Bd.bytes
  have hml : c.maxLocals = 2 := hml0
  have hown : s.vm.findClass "com/example/bytewright/bytewright/grid/ObjectStarts" = some m.cls := findClass_of_methodNamed Bd.named
  have hnm := (name_of_methodNamed Bd.named Bd.method).1
  have X0 : Stand p l e ({ frames := 0, cells := 0, slots := 0, locals := 0 } : Room) s m #[(.ref r0), (.int p1)] below meth c s₁ [] 0 0 := Stand.of_body Bd
  have e0 : s₁.heap = h0 := by rw [← hh, Bd.state]; rfl
  have N0 := Fr.nil n0
  have pre0 : ∀ t, Steps p.tables e below (s₁.setTop (mkF m 0 #[rv r0, iv p1] [])) t → Steps p.tables e below (s₁.setTop (entryFrame m #[(.ref r0), (.int p1)] 2)) t := fun t k => castTop (ef_4c0 m r0 p1) k
  have pre1 : ∀ t, Steps p.tables e below (s₁.setTop (mkF m 1 #[rv r0, iv p1] [(.ref r0)])) t → Steps p.tables e below (s₁.setTop (entryFrame m #[(.ref r0), (.int p1)] 2)) t := by
    intro t kt
    refine pre0 _ ?_
    show Steps p.tables e below (s₁.setTop (mkF m 0 #[rv r0, iv p1] [])) _
    refine XS.aloadN X0.here hx rfl (hb hby d4_0) rfl rfl ?_
    exact kt
  obtain ⟨T2, X2, e2, st2⟩ := getF X0 hx hZ hown (host := "") (Or.inl (hw _ (List.mem_of_getElem? (i := 18) rfl))) Via.refl e0 F_count_r0 (g := (mkF m 1 #[rv r0, iv p1] [(.ref r0)])) rfl rfl (hb hby d4_1)
  have pre3 : ∀ t, Steps p.tables e below (T2.setTop (mkF m 35 #[rv r0, iv p1] [])) t → Steps p.tables e below (s₁.setTop (entryFrame m #[(.ref r0), (.int p1)] 2)) t := by
    intro t kt
    refine pre1 _ ?_
    show Steps p.tables e below (s₁.setTop (mkF m 1 #[rv r0, iv p1] [(.ref r0)])) _
    refine st2 _ ?_
    show Steps p.tables e below (T2.setTop (mkF m 4 #[rv r0, iv p1] [(.int (0 : Int32))])) _
    refine XS.ifYes X2.here hx rfl (pc0 := 4) (pc' := 35) rfl (hb hby d4_4) rfl ((if0 _ _).trans (flt (by decide)).2.2.2) (by decide) (by decide) ?_
    exact kt
  obtain ⟨fs, hr, hrun, hended, hW, hsame⟩ := X2.leave (v := none) (fun _ => rfl)
  refine ⟨_, _, pre3 _ ?_, hrun, hended, _, _, rfl, ?_, ⟨_, rfl⟩, hW, hsame.mono (by decide) (by decide)⟩
  · show Steps p.tables e below (T2.setTop (mkF m 35 #[rv r0, iv p1] [])) _
    exact X2.returnOut hx Bd.returns (hb hby d4_35) hr
  · show Q4c0 Z r0 p1 ab kc x0 x1 x2 x3 h0 n0 _ T2.heap _
    rw [e2]
    exact ⟨_, rfl, N0, (Keep.refl h0 [r0, ab]), F_offsets_r0, F_count_r0, V_ab, rfl⟩
theorem d4_7 : decode prog_53_method_3_code 7 = .ok (.aload_n 0, 1) := by decide +kernel
theorem d4_8 : decode prog_53_method_3_code 8 = .ok (.getfield 7, 3) := by decide +kernel
theorem d4_11 : decode prog_53_method_3_code 11 = .ok (.aload_n 0, 1) := by decide +kernel
theorem d4_12 : decode prog_53_method_3_code 12 = .ok (.getfield 13, 3) := by decide +kernel
theorem d4_15 : decode prog_53_method_3_code 15 = .ok (.iconst 1, 1) := by decide +kernel
theorem d4_16 : decode prog_53_method_3_code 16 = .ok (.isub, 1) := by decide +kernel
theorem d4_17 : decode prog_53_method_3_code 17 = .ok (.iaload, 1) := by decide +kernel
theorem d4_18 : decode prog_53_method_3_code 18 = .ok (.iload_n 1, 1) := by decide +kernel
theorem d4_19 : decode prog_53_method_3_code 19 = .ok (.if_icmp .lt 16, 3) := by decide +kernel
theorem d4_22 : decode prog_53_method_3_code 22 = .ok (.aload_n 0, 1) := by decide +kernel
theorem d4_23 : decode prog_53_method_3_code 23 = .ok (.dup, 1) := by decide +kernel
theorem d4_24 : decode prog_53_method_3_code 24 = .ok (.getfield 13, 3) := by decide +kernel
theorem d4_27 : decode prog_53_method_3_code 27 = .ok (.iconst 1, 1) := by decide +kernel
theorem d4_28 : decode prog_53_method_3_code 28 = .ok (.isub, 1) := by decide +kernel
theorem d4_29 : decode prog_53_method_3_code 29 = .ok (.putfield 13, 3) := by decide +kernel
theorem d4_32 : decode prog_53_method_3_code 32 = .ok (.goto (-32), 3) := by decide +kernel
theorem ef_4c1 (m : MethodId) (x0 : Addr) (x1 : Int32) : entryFrame m #[(.ref x0), (.int x1)] 2 = mkF m 0 #[.val (.ref x0), .val (.int x1)] [] := by first | (simp [entryFrame, mkF, argsToLocals, Value.category]; done) | rfl
def Q4c1 (Z : State) (r0 : Addr) (p1 : Int32) (ab : Addr) (kc : ClassId) (x0 : Int32) (x1 : Int32) (x2 : Int32) (x3 : Int32) (h0 : Heap) (n0 : Nat) (v : Option Value) (h : Heap) (L : List Loc) : Prop := ∃ kk, v = none ∧ Fr n0 L ∧ Keep h0 h [r0, ab] ∧ Fld Z h r0 "com/example/bytewright/bytewright/grid/ObjectStarts" "offsets" "[I" (.ref ab) ∧ Fld Z h r0 "com/example/bytewright/bytewright/grid/ObjectStarts" "count" "I" (.int kk) ∧ Arv Z h ab kc .int (16 : Int32) [(.int x0), (.int x1), (.int x2), (.int x3), (.int (0 : Int32)), (.int (0 : Int32)), (.int (0 : Int32)), (.int (0 : Int32)), (.int (0 : Int32)), (.int (0 : Int32)), (.int (0 : Int32)), (.int (0 : Int32)), (.int (0 : Int32)), (.int (0 : Int32)), (.int (0 : Int32)), (.int (0 : Int32))] (.int (0 : Int32)) ∧ ((x0 < p1 ∧ kk = (1 : Int32)) ∨ (¬ (x0 < p1) ∧ kk = (0 : Int32)))
set_option maxRecDepth 65536 in
set_option maxHeartbeats 40000000 in
theorem rm4c1 (l : Launch) (Z : State) (a0 : Array Value) (hw : ∀ d ∈ tables_1, d.before a0 Z = true) (ws : List Jvm.Cond) (r0 : Addr) (p1 : Int32) (ab : Addr) (kc : ClassId) (x0 : Int32) (x1 : Int32) (x2 : Int32) (x3 : Int32) (h0 : Heap) (n0 : Nat) (Z0 : n0 ≤ h0.size) (F_offsets_r0 : Fld Z h0 r0 "com/example/bytewright/bytewright/grid/ObjectStarts" "offsets" "[I" (.ref ab)) (F_count_r0 : Fld Z h0 r0 "com/example/bytewright/bytewright/grid/ObjectStarts" "count" "I" (.int (1 : Int32))) (E_r0 : Exa Z h0 r0 "com/example/bytewright/bytewright/grid/ObjectStarts") (g_r0 : n0 ≤ r0) (V_ab : Arv Z h0 ab kc .int (16 : Int32) [(.int x0), (.int x1), (.int x2), (.int x3), (.int (0 : Int32)), (.int (0 : Int32)), (.int (0 : Int32)), (.int (0 : Int32)), (.int (0 : Int32)), (.int (0 : Int32)), (.int (0 : Int32)), (.int (0 : Int32)), (.int (0 : Int32)), (.int (0 : Int32)), (.int (0 : Int32)), (.int (0 : Int32))] (.int (0 : Int32))) (g_ab : n0 ≤ ab) (hne : r0 ≠ ab) :
    MetFree l (⟨"com/example/bytewright/bytewright/grid/ObjectStarts", "forgetFrom", "(I)V"⟩ : MethodName) (head1 (Jvm.Cond.code (⟨"com/example/bytewright/bytewright/grid/ObjectStarts", "forgetFrom", "(I)V"⟩ : MethodName) prog_53_method_3_code 2 none :: ws) ({ frames := 0, cells := 0, slots := 0, locals := 0 } : Room)) (fun a U => a = #[(.ref r0), (.int p1)] ∧ Z.Warmed39 U.vm ∧ U.heap = h0) (fun _ _ _ _ _ => True) (fun _ U o U' => ∃ v L, o = .returned v ∧ Q4c1 Z r0 p1 ab kc x0 x1 x2 x3 h0 n0 v U'.heap L ∧ FrameEnd U o U' L ({ frames := 0, cells := 0, slots := 0, locals := 0 } : Room).cells ({ frames := 0, cells := 0, slots := 0, locals := 0 } : Room).slots) := by
  refine MetFree.of_bodySF (plainFor_of_name pn0) hisR ?_
  intro p e s m args below meth c s₁ Bd hml0 hP hK
  obtain ⟨rfl, hZ, hh⟩ := hP
  have hx := Bd.exec
  have hby := Bd.bytes
  have hml : c.maxLocals = 2 := hml0
  have hown : s.vm.findClass "com/example/bytewright/bytewright/grid/ObjectStarts" = some m.cls := findClass_of_methodNamed Bd.named
  have hnm := (name_of_methodNamed Bd.named Bd.method).1
  have X0 : Stand p l e ({ frames := 0, cells := 0, slots := 0, locals := 0 } : Room) s m #[(.ref r0), (.int p1)] below meth c s₁ [] 0 0 := Stand.of_body Bd
  have e0 : s₁.heap = h0 := by rw [← hh, Bd.state]; rfl
  have N0 := Fr.nil n0
  have pre0 : ∀ t, Steps p.tables e below (s₁.setTop (mkF m 0 #[rv r0, iv p1] [])) t → Steps p.tables e below (s₁.setTop (entryFrame m #[(.ref r0), (.int p1)] 2)) t := fun t k => castTop (ef_4c1 m r0 p1) k
  have pre1 : ∀ t, Steps p.tables e below (s₁.setTop (mkF m 1 #[rv r0, iv p1] [(.ref r0)])) t → Steps p.tables e below (s₁.setTop (entryFrame m #[(.ref r0), (.int p1)] 2)) t := by
    intro t kt
    refine pre0 _ ?_
    show Steps p.tables e below (s₁.setTop (mkF m 0 #[rv r0, iv p1] [])) _
    refine XS.aloadN X0.here hx rfl (hb hby d4_0) rfl rfl ?_
    exact kt
  obtain ⟨T2, X2, e2, st2⟩ := getF X0 hx hZ hown (host := "") (Or.inl (hw _ (List.mem_of_getElem? (i := 18) rfl))) Via.refl e0 F_count_r0 (g := (mkF m 1 #[rv r0, iv p1] [(.ref r0)])) rfl rfl (hb hby d4_1)
  have pre3 : ∀ t, Steps p.tables e below (T2.setTop (mkF m 8 #[rv r0, iv p1] [(.ref r0)])) t → Steps p.tables e below (s₁.setTop (entryFrame m #[(.ref r0), (.int p1)] 2)) t := by
    intro t kt
    refine pre1 _ ?_
    show Steps p.tables e below (s₁.setTop (mkF m 1 #[rv r0, iv p1] [(.ref r0)])) _
    refine st2 _ ?_
    show Steps p.tables e below (T2.setTop (mkF m 4 #[rv r0, iv p1] [(.int (1 : Int32))])) _
    refine XS.ifNo X2.here hx rfl (hb hby d4_4) rfl ((if0 _ _).trans (tlt (by decide)).2.2.2) ?_
    refine XS.aloadN X2.here hx rfl (hb hby d4_7) rfl rfl ?_
    exact kt
  obtain ⟨T4, X4, e4, st4⟩ := getF X2 hx hZ hown (host := "") (Or.inl (hw _ (List.mem_of_getElem? (i := 11) rfl))) Via.refl e2 F_offsets_r0 (g := (mkF m 8 #[rv r0, iv p1] [(.ref r0)])) rfl rfl (hb hby d4_8)
  have pre5 : ∀ t, Steps p.tables e below (T4.setTop (mkF m 12 #[rv r0, iv p1] [(.ref r0), (.ref ab)])) t → Steps p.tables e below (s₁.setTop (entryFrame m #[(.ref r0), (.int p1)] 2)) t := by
    intro t kt
    refine pre3 _ ?_
    show Steps p.tables e below (T2.setTop (mkF m 8 #[rv r0, iv p1] [(.ref r0)])) _
    refine st4 _ ?_
    show Steps p.tables e below (T4.setTop (mkF m 11 #[rv r0, iv p1] [(.ref ab)])) _
    refine XS.aloadN X4.here hx rfl (hb hby d4_11) rfl rfl ?_
    exact kt
  obtain ⟨T6, X6, e6, st6⟩ := getF X4 hx hZ hown (host := "") (Or.inl (hw _ (List.mem_of_getElem? (i := 18) rfl))) Via.refl e4 F_count_r0 (g := (mkF m 12 #[rv r0, iv p1] [(.ref r0), (.ref ab)])) rfl rfl (hb hby d4_12)
  obtain ⟨cl7, Ar7, q7, S7, M7, H7, G7⟩ := id V_ab
  have hin7 : ¬ ((0 : Int32) < 0 ∨ cl7.slots.size ≤ ((0 : Int32)).toNatClampNeg) := inb_of S7 ⟨by decide, by decide⟩
  have hat7 : cl7.slots[((0 : Int32)).toNatClampNeg]? = some (.int x0) := H7.at hin7 rfl
  have pre8 : ∀ t, Steps p.tables e below (T6.setTop (mkF m 19 #[rv r0, iv p1] [(.int p1), (.int x0)])) t → Steps p.tables e below (s₁.setTop (entryFrame m #[(.ref r0), (.int p1)] 2)) t := by
    intro t kt
    refine pre5 _ ?_
    show Steps p.tables e below (T4.setTop (mkF m 12 #[rv r0, iv p1] [(.ref r0), (.ref ab)])) _
    refine st6 _ ?_
    show Steps p.tables e below (T6.setTop (mkF m 15 #[rv r0, iv p1] [(.int (1 : Int32)), (.ref ab)])) _
    refine XS.iconst X6.here hx rfl (hb hby d4_15) ?_
    refine XS.isub X6.here hx rfl (hb hby d4_16) rfl ?_
    show Steps p.tables e below (T6.setTop (mkF m 17 #[rv r0, iv p1] [(.int ((1 : Int32) - (1 : Int32))), (.ref ab)])) _
    rw [show ((1 : Int32) - (1 : Int32)) = (0 : Int32) from (by decide)]
    show Steps p.tables e below (T6.setTop (mkF m 17 #[rv r0, iv p1] [(.int (0 : Int32)), (.ref ab)])) _
    refine X6.iaload hx (j := (0 : Int32)) (v := (.int x0)) (by rw [e6]; exact Ar7.1) (State.isArrayOf_alike hZ.alike Ar7.2.1) Ar7.2.2 hin7 hat7 (g := (mkF m 17 #[rv r0, iv p1] [(.int (0 : Int32)), (.ref ab)])) rfl rfl (hb hby d4_17) _ ?_
    show Steps p.tables e below (T6.setTop (mkF m 18 #[rv r0, iv p1] [(.int x0)])) _
    refine XS.iloadN X6.here hx rfl (hb hby d4_18) rfl ?_
    exact kt
  by_cases hc19 : x0 < p1
  · have pre9 : ∀ t, Steps p.tables e below (T6.setTop (mkF m 35 #[rv r0, iv p1] [])) t → Steps p.tables e below (s₁.setTop (entryFrame m #[(.ref r0), (.int p1)] 2)) t := by
      intro t kt
      refine pre8 _ ?_
      show Steps p.tables e below (T6.setTop (mkF m 19 #[rv r0, iv p1] [(.int p1), (.int x0)])) _
      refine XS.icmpYes X6.here hx rfl (pc0 := 19) (pc' := 35) rfl (hb hby d4_19) rfl (tlt hc19).1 (by decide) (by decide) ?_
      exact kt
    obtain ⟨fs, hr, hrun, hended, hW, hsame⟩ := X6.leave (v := none) (fun _ => rfl)
    refine ⟨_, _, pre9 _ ?_, hrun, hended, _, _, rfl, ?_, ⟨_, rfl⟩, hW, hsame.mono (by decide) (by decide)⟩
    · show Steps p.tables e below (T6.setTop (mkF m 35 #[rv r0, iv p1] [])) _
      exact X6.returnOut hx Bd.returns (hb hby d4_35) hr
    · show Q4c1 Z r0 p1 ab kc x0 x1 x2 x3 h0 n0 _ T6.heap _
      rw [e6]
      exact ⟨_, rfl, N0, (Keep.refl h0 [r0, ab]), F_offsets_r0, F_count_r0, V_ab, Or.inl ⟨hc19, rfl⟩⟩
  · have pre10 : ∀ t, Steps p.tables e below (T6.setTop (mkF m 24 #[rv r0, iv p1] [(.ref r0), (.ref r0)])) t → Steps p.tables e below (s₁.setTop (entryFrame m #[(.ref r0), (.int p1)] 2)) t := by
      intro t kt
      refine pre8 _ ?_
      show Steps p.tables e below (T6.setTop (mkF m 19 #[rv r0, iv p1] [(.int p1), (.int x0)])) _
      refine XS.icmpNo X6.here hx rfl (hb hby d4_19) rfl (flt hc19).1 ?_
      refine XS.aloadN X6.here hx rfl (hb hby d4_22) rfl rfl ?_
      refine XS.dup X6.here hx rfl (hb hby d4_23) rfl rfl ?_
      exact kt
    obtain ⟨T11, X11, e11, st11⟩ := getF X6 hx hZ hown (host := "") (Or.inl (hw _ (List.mem_of_getElem? (i := 18) rfl))) Via.refl e6 F_count_r0 (g := (mkF m 24 #[rv r0, iv p1] [(.ref r0), (.ref r0)])) rfl rfl (hb hby d4_24)
    have pre12 : ∀ t, Steps p.tables e below (T11.setTop (mkF m 29 #[rv r0, iv p1] [(.int (0 : Int32)), (.ref r0)])) t → Steps p.tables e below (s₁.setTop (entryFrame m #[(.ref r0), (.int p1)] 2)) t := by
      intro t kt
      refine pre10 _ ?_
      show Steps p.tables e below (T6.setTop (mkF m 24 #[rv r0, iv p1] [(.ref r0), (.ref r0)])) _
      refine st11 _ ?_
      show Steps p.tables e below (T11.setTop (mkF m 27 #[rv r0, iv p1] [(.int (1 : Int32)), (.ref r0)])) _
      refine XS.iconst X11.here hx rfl (hb hby d4_27) ?_
      refine XS.isub X11.here hx rfl (hb hby d4_28) rfl ?_
      show Steps p.tables e below (T11.setTop (mkF m 29 #[rv r0, iv p1] [(.int ((1 : Int32) - (1 : Int32))), (.ref r0)])) _
      rw [show ((1 : Int32) - (1 : Int32)) = (0 : Int32) from (by decide)]
      exact kt
    obtain ⟨T13, h13, X13, e13, W13, st13⟩ := putF X11 hx hZ hown (host := "") (Or.inl (hw _ (List.mem_of_getElem? (i := 18) rfl))) Via.refl e11 F_count_r0 E_r0 (Or.inl (hw _ (List.mem_of_getElem? (i := 19) rfl))) (hw _ (List.mem_of_getElem? (i := 2) rfl)) (ty := .int) (by decide) rfl rfl (g := (mkF m 29 #[rv r0, iv p1] [(.int (0 : Int32)), (.ref r0)])) rfl rfl (hb hby d4_29)
    have Fw13 : Fld Z h13 r0 "com/example/bytewright/bytewright/grid/ObjectStarts" "count" "I" (.int (0 : Int32)) := F_count_r0.same W13
    have K13 : Keep h0 h13 [r0, ab] := (Keep.refl h0 [r0, ab]).wr W13 (Or.inl (List.mem_of_getElem? (i := 0) rfl))
    have N13 := Fr.snoc X13 N0 g_r0
    have pre14 : ∀ t, Steps p.tables e below (T13.setTop (mkF m 1 #[rv r0, iv p1] [(.ref r0)])) t → Steps p.tables e below (s₁.setTop (entryFrame m #[(.ref r0), (.int p1)] 2)) t := by
      intro t kt
      refine pre12 _ ?_
      show Steps p.tables e below (T11.setTop (mkF m 29 #[rv r0, iv p1] [(.int (0 : Int32)), (.ref r0)])) _
      refine st13 _ ?_
      show Steps p.tables e below (T13.setTop (mkF m 32 #[rv r0, iv p1] [])) _
      refine XS.goto X13.here hx rfl (pc0 := 32) (pc' := 0) rfl (hb hby d4_32) (by decide) (by decide) ?_
      refine XS.aloadN X13.here hx rfl (hb hby d4_0) rfl rfl ?_
      exact kt
    obtain ⟨T15, X15, e15, st15⟩ := getF X13 hx hZ hown (host := "") (Or.inl (hw _ (List.mem_of_getElem? (i := 18) rfl))) Via.refl e13 Fw13 (g := (mkF m 1 #[rv r0, iv p1] [(.ref r0)])) rfl rfl (hb hby d4_1)
    have pre16 : ∀ t, Steps p.tables e below (T15.setTop (mkF m 35 #[rv r0, iv p1] [])) t → Steps p.tables e below (s₁.setTop (entryFrame m #[(.ref r0), (.int p1)] 2)) t := by
      intro t kt
      refine pre14 _ ?_
      show Steps p.tables e below (T13.setTop (mkF m 1 #[rv r0, iv p1] [(.ref r0)])) _
      refine st15 _ ?_
      show Steps p.tables e below (T15.setTop (mkF m 4 #[rv r0, iv p1] [(.int (0 : Int32))])) _
      refine XS.ifYes X15.here hx rfl (pc0 := 4) (pc' := 35) rfl (hb hby d4_4) rfl ((if0 _ _).trans (flt (by decide)).2.2.2) (by decide) (by decide) ?_
      exact kt
    obtain ⟨fs, hr, hrun, hended, hW, hsame⟩ := X15.leave (v := none) (fun _ => rfl)
    refine ⟨_, _, pre16 _ ?_, hrun, hended, _, _, rfl, ?_, ⟨_, rfl⟩, hW, hsame.mono (by decide) (by decide)⟩
    · show Steps p.tables e below (T15.setTop (mkF m 35 #[rv r0, iv p1] [])) _
      exact X15.returnOut hx Bd.returns (hb hby d4_35) hr
    · show Q4c1 Z r0 p1 ab kc x0 x1 x2 x3 h0 n0 _ T15.heap _
      rw [e15]
      exact ⟨_, rfl, N13, K13, (F_offsets_r0.other W13 (Or.inr (slot_ne (Or.inl (hw _ (List.mem_of_getElem? (i := 12) rfl))) (Or.inl (hw _ (List.mem_of_getElem? (i := 19) rfl))) (by decide) (t := (.array .int)) (t' := .int) (by decide) (by decide)))), Fw13, (V_ab.other W13 (Ne.symm hne)), Or.inr (⟨hc19, rfl⟩)⟩

theorem ef_4c2 (m : MethodId) (x0 : Addr) (x1 : Int32) : entryFrame m #[(.ref x0), (.int x1)] 2 = mkF m 0 #[.val (.ref x0), .val (.int x1)] [] := by first | (simp [entryFrame, mkF, argsToLocals, Value.category]; done) | rfl
def Q4c2 (Z : State) (r0 : Addr) (p1 : Int32) (ab : Addr) (kc : ClassId) (x0 : Int32) (x1 : Int32) (x2 : Int32) (x3 : Int32) (h0 : Heap) (n0 : Nat) (v : Option Value) (h : Heap) (L : List Loc) : Prop := ∃ kk, v = none ∧ Fr n0 L ∧ Keep h0 h [r0, ab] ∧ Fld Z h r0 "com/example/bytewright/bytewright/grid/ObjectStarts" "offsets" "[I" (.ref ab) ∧ Fld Z h r0 "com/example/bytewright/bytewright/grid/ObjectStarts" "count" "I" (.int kk) ∧ Arv Z h ab kc .int (16 : Int32) [(.int x0), (.int x1), (.int x2), (.int x3), (.int (0 : Int32)), (.int (0 : Int32)), (.int (0 : Int32)), (.int (0 : Int32)), (.int (0 : Int32)), (.int (0 : Int32)), (.int (0 : Int32)), (.int (0 : Int32)), (.int (0 : Int32)), (.int (0 : Int32)), (.int (0 : Int32)), (.int (0 : Int32))] (.int (0 : Int32)) ∧ ((x1 < p1 ∧ kk = (2 : Int32)) ∨ (¬ (x1 < p1) ∧ x0 < p1 ∧ kk = (1 : Int32)) ∨ (¬ (x1 < p1) ∧ ¬ (x0 < p1) ∧ kk = (0 : Int32)))
set_option maxRecDepth 65536 in
set_option maxHeartbeats 40000000 in
theorem rm4c2 (l : Launch) (Z : State) (a0 : Array Value) (hw : ∀ d ∈ tables_1, d.before a0 Z = true) (ws : List Jvm.Cond) (r0 : Addr) (p1 : Int32) (ab : Addr) (kc : ClassId) (x0 : Int32) (x1 : Int32) (x2 : Int32) (x3 : Int32) (h0 : Heap) (n0 : Nat) (Z0 : n0 ≤ h0.size) (F_offsets_r0 : Fld Z h0 r0 "com/example/bytewright/bytewright/grid/ObjectStarts" "offsets" "[I" (.ref ab)) (F_count_r0 : Fld Z h0 r0 "com/example/bytewright/bytewright/grid/ObjectStarts" "count" "I" (.int (2 : Int32))) (E_r0 : Exa Z h0 r0 "com/example/bytewright/bytewright/grid/ObjectStarts") (g_r0 : n0 ≤ r0) (V_ab : Arv Z h0 ab kc .int (16 : Int32) [(.int x0), (.int x1), (.int x2), (.int x3), (.int (0 : Int32)), (.int (0 : Int32)), (.int (0 : Int32)), (.int (0 : Int32)), (.int (0 : Int32)), (.int (0 : Int32)), (.int (0 : Int32)), (.int (0 : Int32)), (.int (0 : Int32)), (.int (0 : Int32)), (.int (0 : Int32)), (.int (0 : Int32))] (.int (0 : Int32))) (g_ab : n0 ≤ ab) (hne : r0 ≠ ab) :
    MetFree l (⟨"com/example/bytewright/bytewright/grid/ObjectStarts", "forgetFrom", "(I)V"⟩ : MethodName) (head1 (Jvm.Cond.code (⟨"com/example/bytewright/bytewright/grid/ObjectStarts", "forgetFrom", "(I)V"⟩ : MethodName) prog_53_method_3_code 2 none :: ws) ({ frames := 0, cells := 0, slots := 0, locals := 0 } : Room)) (fun a U => a = #[(.ref r0), (.int p1)] ∧ Z.Warmed39 U.vm ∧ U.heap = h0) (fun _ _ _ _ _ => True) (fun _ U o U' => ∃ v L, o = .returned v ∧ Q4c2 Z r0 p1 ab kc x0 x1 x2 x3 h0 n0 v U'.heap L ∧ FrameEnd U o U' L ({ frames := 0, cells := 0, slots := 0, locals := 0 } : Room).cells ({ frames := 0, cells := 0, slots := 0, locals := 0 } : Room).slots) := by
  refine MetFree.of_bodySF (plainFor_of_name pn0) hisR ?_
  intro p e s m args below meth c s₁ Bd hml0 hP hK
  obtain ⟨rfl, hZ, hh⟩ := hP
  have hx := Bd.exec
  have hby := Bd.bytes
  have hml : c.maxLocals = 2 := hml0
  have hown : s.vm.findClass "com/example/bytewright/bytewright/grid/ObjectStarts" = some m.cls := findClass_of_methodNamed Bd.named
  have hnm := (name_of_methodNamed Bd.named Bd.method).1
  have X0 : Stand p l e ({ frames := 0, cells := 0, slots := 0, locals := 0 } : Room) s m #[(.ref r0), (.int p1)] below meth c s₁ [] 0 0 := Stand.of_body Bd
  have e0 : s₁.heap = h0 := by rw [← hh, Bd.state]; rfl
  have N0 := Fr.nil n0
  have pre0 : ∀ t, Steps p.tables e below (s₁.setTop (mkF m 0 #[rv r0, iv p1] [])) t → Steps p.tables e below (s₁.setTop (entryFrame m #[(.ref r0), (.int p1)] 2)) t := fun t k => castTop (ef_4c2 m r0 p1) k
  have pre1 : ∀ t, Steps p.tables e below (s₁.setTop (mkF m 1 #[rv r0, iv p1] [(.ref r0)])) t → Steps p.tables e below (s₁.setTop (entryFrame m #[(.ref r0), (.int p1)] 2)) t := by
    intro t kt
    refine pre0 _ ?_
    show Steps p.tables e below (s₁.setTop (mkF m 0 #[rv r0, iv p1] [])) _
    refine XS.aloadN X0.here hx rfl (hb hby d4_0) rfl rfl ?_
    exact kt
  obtain ⟨T2, X2, e2, st2⟩ := getF X0 hx hZ hown (host := "") (Or.inl (hw _ (List.mem_of_getElem? (i := 18) rfl))) Via.refl e0 F_count_r0 (g := (mkF m 1 #[rv r0, iv p1] [(.ref r0)])) rfl rfl (hb hby d4_1)
  have pre3 : ∀ t, Steps p.tables e below (T2.setTop (mkF m 8 #[rv r0, iv p1] [(.ref r0)])) t → Steps p.tables e below (s₁.setTop (entryFrame m #[(.ref r0), (.int p1)] 2)) t := by
    intro t kt
    refine pre1 _ ?_
    show Steps p.tables e below (s₁.setTop (mkF m 1 #[rv r0, iv p1] [(.ref r0)])) _
    refine st2 _ ?_
    show Steps p.tables e below (T2.setTop (mkF m 4 #[rv r0, iv p1] [(.int (2 : Int32))])) _
    refine XS.ifNo X2.here hx rfl (hb hby d4_4) rfl ((if0 _ _).trans (tlt (by decide)).2.2.2) ?_
    refine XS.aloadN X2.here hx rfl (hb hby d4_7) rfl rfl ?_
    exact kt
  obtain ⟨T4, X4, e4, st4⟩ := getF X2 hx hZ hown (host := "") (Or.inl (hw _ (List.mem_of_getElem? (i := 11) rfl))) Via.refl e2 F_offsets_r0 (g := (mkF m 8 #[rv r0, iv p1] [(.ref r0)])) rfl rfl (hb hby d4_8)
  have pre5 : ∀ t, Steps p.tables e below (T4.setTop (mkF m 12 #[rv r0, iv p1] [(.ref r0), (.ref ab)])) t → Steps p.tables e below (s₁.setTop (entryFrame m #[(.ref r0), (.int p1)] 2)) t := by
    intro t kt
    refine pre3 _ ?_
    show Steps p.tables e below (T2.setTop (mkF m 8 #[rv r0, iv p1] [(.ref r0)])) _
    refine st4 _ ?_
    show Steps p.tables e below (T4.setTop (mkF m 11 #[rv r0, iv p1] [(.ref ab)])) _
    refine XS.aloadN X4.here hx rfl (hb hby d4_11) rfl rfl ?_
    exact kt
  obtain ⟨T6, X6, e6, st6⟩ := getF X4 hx hZ hown (host := "") (Or.inl (hw _ (List.mem_of_getElem? (i := 18) rfl))) Via.refl e4 F_count_r0 (g := (mkF m 12 #[rv r0, iv p1] [(.ref r0), (.ref ab)])) rfl rfl (hb hby d4_12)
  obtain ⟨cl7, Ar7, q7, S7, M7, H7, G7⟩ := id V_ab
  have hin7 : ¬ ((1 : Int32) < 0 ∨ cl7.slots.size ≤ ((1 : Int32)).toNatClampNeg) := inb_of S7 ⟨by decide, by decide⟩
  have hat7 : cl7.slots[((1 : Int32)).toNatClampNeg]? = some (.int x1) := H7.at hin7 rfl
  have pre8 : ∀ t, Steps p.tables e below (T6.setTop (mkF m 19 #[rv r0, iv p1] [(.int p1), (.int x1)])) t → Steps p.tables e below (s₁.setTop (entryFrame m #[(.ref r0), (.int p1)] 2)) t := by
    intro t kt
    refine pre5 _ ?_
    show Steps p.tables e below (T4.setTop (mkF m 12 #[rv r0, iv p1] [(.ref r0), (.ref ab)])) _
    refine st6 _ ?_
    show Steps p.tables e below (T6.setTop (mkF m 15 #[rv r0, iv p1] [(.int (2 : Int32)), (.ref ab)])) _
    refine XS.iconst X6.here hx rfl (hb hby d4_15) ?_
    refine XS.isub X6.here hx rfl (hb hby d4_16) rfl ?_
    show Steps p.tables e below (T6.setTop (mkF m 17 #[rv r0, iv p1] [(.int ((2 : Int32) - (1 : Int32))), (.ref ab)])) _
    rw [show ((2 : Int32) - (1 : Int32)) = (1 : Int32) from (by decide)]
    show Steps p.tables e below (T6.setTop (mkF m 17 #[rv r0, iv p1] [(.int (1 : Int32)), (.ref ab)])) _
    refine X6.iaload hx (j := (1 : Int32)) (v := (.int x1)) (by rw [e6]; exact Ar7.1) (State.isArrayOf_alike hZ.alike Ar7.2.1) Ar7.2.2 hin7 hat7 (g := (mkF m 17 #[rv r0, iv p1] [(.int (1 : Int32)), (.ref ab)])) rfl rfl (hb hby d4_17) _ ?_
    show Steps p.tables e below (T6.setTop (mkF m 18 #[rv r0, iv p1] [(.int x1)])) _
    refine XS.iloadN X6.here hx rfl (hb hby d4_18) rfl ?_
    exact kt
  by_cases hc19 : x1 < p1
  · have pre9 : ∀ t, Steps p.tables e below (T6.setTop (mkF m 35 #[rv r0, iv p1] [])) t → Steps p.tables e below (s₁.setTop (entryFrame m #[(.ref r0), (.int p1)] 2)) t := by
      intro t kt
      refine pre8 _ ?_
      show Steps p.tables e below (T6.setTop (mkF m 19 #[rv r0, iv p1] [(.int p1), (.int x1)])) _
      refine XS.icmpYes X6.here hx rfl (pc0 := 19) (pc' := 35) rfl (hb hby d4_19) rfl (tlt hc19).1 (by decide) (by decide) ?_
      exact kt
    obtain ⟨fs, hr, hrun, hended, hW, hsame⟩ := X6.leave (v := none) (fun _ => rfl)
    refine ⟨_, _, pre9 _ ?_, hrun, hended, _, _, rfl, ?_, ⟨_, rfl⟩, hW, hsame.mono (by decide) (by decide)⟩
    · show Steps p.tables e below (T6.setTop (mkF m 35 #[rv r0, iv p1] [])) _
      exact X6.returnOut hx Bd.returns (hb hby d4_35) hr
    · show Q4c2 Z r0 p1 ab kc x0 x1 x2 x3 h0 n0 _ T6.heap _
      rw [e6]
      exact ⟨_, rfl, N0, (Keep.refl h0 [r0, ab]), F_offsets_r0, F_count_r0, V_ab, Or.inl ⟨hc19, rfl⟩⟩
  · have pre10 : ∀ t, Steps p.tables e below (T6.setTop (mkF m 24 #[rv r0, iv p1] [(.ref r0), (.ref r0)])) t → Steps p.tables e below (s₁.setTop (entryFrame m #[(.ref r0), (.int p1)] 2)) t := by
      intro t kt
      refine pre8 _ ?_
      show Steps p.tables e below (T6.setTop (mkF m 19 #[rv r0, iv p1] [(.int p1), (.int x1)])) _
      refine XS.icmpNo X6.here hx rfl (hb hby d4_19) rfl (flt hc19).1 ?_
      refine XS.aloadN X6.here hx rfl (hb hby d4_22) rfl rfl ?_
      refine XS.dup X6.here hx rfl (hb hby d4_23) rfl rfl ?_
      exact kt
    obtain ⟨T11, X11, e11, st11⟩ := getF X6 hx hZ hown (host := "") (Or.inl (hw _ (List.mem_of_getElem? (i := 18) rfl))) Via.refl e6 F_count_r0 (g := (mkF m 24 #[rv r0, iv p1] [(.ref r0), (.ref r0)])) rfl rfl (hb hby d4_24)
    have pre12 : ∀ t, Steps p.tables e below (T11.setTop (mkF m 29 #[rv r0, iv p1] [(.int (1 : Int32)), (.ref r0)])) t → Steps p.tables e below (s₁.setTop (entryFrame m #[(.ref r0), (.int p1)] 2)) t := by
      intro t kt
      refine pre10 _ ?_
      show Steps p.tables e below (T6.setTop (mkF m 24 #[rv r0, iv p1] [(.ref r0), (.ref r0)])) _
      refine st11 _ ?_
      show Steps p.tables e below (T11.setTop (mkF m 27 #[rv r0, iv p1] [(.int (2 : Int32)), (.ref r0)])) _
      refine XS.iconst X11.here hx rfl (hb hby d4_27) ?_
      refine XS.isub X11.here hx rfl (hb hby d4_28) rfl ?_
      show Steps p.tables e below (T11.setTop (mkF m 29 #[rv r0, iv p1] [(.int ((2 : Int32) - (1 : Int32))), (.ref r0)])) _
      rw [show ((2 : Int32) - (1 : Int32)) = (1 : Int32) from (by decide)]
      exact kt
    obtain ⟨T13, h13, X13, e13, W13, st13⟩ := putF X11 hx hZ hown (host := "") (Or.inl (hw _ (List.mem_of_getElem? (i := 18) rfl))) Via.refl e11 F_count_r0 E_r0 (Or.inl (hw _ (List.mem_of_getElem? (i := 19) rfl))) (hw _ (List.mem_of_getElem? (i := 2) rfl)) (ty := .int) (by decide) rfl rfl (g := (mkF m 29 #[rv r0, iv p1] [(.int (1 : Int32)), (.ref r0)])) rfl rfl (hb hby d4_29)
    have Fw13 : Fld Z h13 r0 "com/example/bytewright/bytewright/grid/ObjectStarts" "count" "I" (.int (1 : Int32)) := F_count_r0.same W13
    have K13 : Keep h0 h13 [r0, ab] := (Keep.refl h0 [r0, ab]).wr W13 (Or.inl (List.mem_of_getElem? (i := 0) rfl))
    have N13 := Fr.snoc X13 N0 g_r0
    have pre14 : ∀ t, Steps p.tables e below (T13.setTop (mkF m 1 #[rv r0, iv p1] [(.ref r0)])) t → Steps p.tables e below (s₁.setTop (entryFrame m #[(.ref r0), (.int p1)] 2)) t := by
      intro t kt
      refine pre12 _ ?_
      show Steps p.tables e below (T11.setTop (mkF m 29 #[rv r0, iv p1] [(.int (1 : Int32)), (.ref r0)])) _
      refine st13 _ ?_
      show Steps p.tables e below (T13.setTop (mkF m 32 #[rv r0, iv p1] [])) _
      refine XS.goto X13.here hx rfl (pc0 := 32) (pc' := 0) rfl (hb hby d4_32) (by decide) (by decide) ?_
      refine XS.aloadN X13.here hx rfl (hb hby d4_0) rfl rfl ?_
      exact kt
    obtain ⟨T15, X15, e15, st15⟩ := getF X13 hx hZ hown (host := "") (Or.inl (hw _ (List.mem_of_getElem? (i := 18) rfl))) Via.refl e13 Fw13 (g := (mkF m 1 #[rv r0, iv p1] [(.ref r0)])) rfl rfl (hb hby d4_1)
    have pre16 : ∀ t, Steps p.tables e below (T15.setTop (mkF m 8 #[rv r0, iv p1] [(.ref r0)])) t → Steps p.tables e below (s₁.setTop (entryFrame m #[(.ref r0), (.int p1)] 2)) t := by
      intro t kt
      refine pre14 _ ?_
      show Steps p.tables e below (T13.setTop (mkF m 1 #[rv r0, iv p1] [(.ref r0)])) _
      refine st15 _ ?_
      show Steps p.tables e below (T15.setTop (mkF m 4 #[rv r0, iv p1] [(.int (1 : Int32))])) _
      refine XS.ifNo X15.here hx rfl (hb hby d4_4) rfl ((if0 _ _).trans (tlt (by decide)).2.2.2) ?_
      refine XS.aloadN X15.here hx rfl (hb hby d4_7) rfl rfl ?_
      exact kt
    obtain ⟨T17, X17, e17, st17⟩ := getF X15 hx hZ hown (host := "") (Or.inl (hw _ (List.mem_of_getElem? (i := 11) rfl))) Via.refl e15 (F_offsets_r0.other W13 (Or.inr (slot_ne (Or.inl (hw _ (List.mem_of_getElem? (i := 12) rfl))) (Or.inl (hw _ (List.mem_of_getElem? (i := 19) rfl))) (by decide) (t := (.array .int)) (t' := .int) (by decide) (by decide)))) (g := (mkF m 8 #[rv r0, iv p1] [(.ref r0)])) rfl rfl (hb hby d4_8)
    have pre18 : ∀ t, Steps p.tables e below (T17.setTop (mkF m 12 #[rv r0, iv p1] [(.ref r0), (.ref ab)])) t → Steps p.tables e below (s₁.setTop (entryFrame m #[(.ref r0), (.int p1)] 2)) t := by
      intro t kt
      refine pre16 _ ?_
      show Steps p.tables e below (T15.setTop (mkF m 8 #[rv r0, iv p1] [(.ref r0)])) _
      refine st17 _ ?_
      show Steps p.tables e below (T17.setTop (mkF m 11 #[rv r0, iv p1] [(.ref ab)])) _
      refine XS.aloadN X17.here hx rfl (hb hby d4_11) rfl rfl ?_
      exact kt
    obtain ⟨T19, X19, e19, st19⟩ := getF X17 hx hZ hown (host := "") (Or.inl (hw _ (List.mem_of_getElem? (i := 18) rfl))) Via.refl e17 Fw13 (g := (mkF m 12 #[rv r0, iv p1] [(.ref r0), (.ref ab)])) rfl rfl (hb hby d4_12)
    obtain ⟨cl20, Ar20, q20, S20, M20, H20, G20⟩ := id (V_ab.other W13 (Ne.symm hne))
    have hin20 : ¬ ((0 : Int32) < 0 ∨ cl20.slots.size ≤ ((0 : Int32)).toNatClampNeg) := inb_of S20 ⟨by decide, by decide⟩
    have hat20 : cl20.slots[((0 : Int32)).toNatClampNeg]? = some (.int x0) := H20.at hin20 rfl
    have pre21 : ∀ t, Steps p.tables e below (T19.setTop (mkF m 19 #[rv r0, iv p1] [(.int p1), (.int x0)])) t → Steps p.tables e below (s₁.setTop (entryFrame m #[(.ref r0), (.int p1)] 2)) t := by
      intro t kt
      refine pre18 _ ?_
      show Steps p.tables e below (T17.setTop (mkF m 12 #[rv r0, iv p1] [(.ref r0), (.ref ab)])) _
      refine st19 _ ?_
      show Steps p.tables e below (T19.setTop (mkF m 15 #[rv r0, iv p1] [(.int (1 : Int32)), (.ref ab)])) _
      refine XS.iconst X19.here hx rfl (hb hby d4_15) ?_
      refine XS.isub X19.here hx rfl (hb hby d4_16) rfl ?_
      show Steps p.tables e below (T19.setTop (mkF m 17 #[rv r0, iv p1] [(.int ((1 : Int32) - (1 : Int32))), (.ref ab)])) _
      rw [show ((1 : Int32) - (1 : Int32)) = (0 : Int32) from (by decide)]
      show Steps p.tables e below (T19.setTop (mkF m 17 #[rv r0, iv p1] [(.int (0 : Int32)), (.ref ab)])) _
      refine X19.iaload hx (j := (0 : Int32)) (v := (.int x0)) (by rw [e19]; exact Ar20.1) (State.isArrayOf_alike hZ.alike Ar20.2.1) Ar20.2.2 hin20 hat20 (g := (mkF m 17 #[rv r0, iv p1] [(.int (0 : Int32)), (.ref ab)])) rfl rfl (hb hby d4_17) _ ?_
      show Steps p.tables e below (T19.setTop (mkF m 18 #[rv r0, iv p1] [(.int x0)])) _
      refine XS.iloadN X19.here hx rfl (hb hby d4_18) rfl ?_
      exact kt
    by_cases hc19_22 : x0 < p1
    · have pre23 : ∀ t, Steps p.tables e below (T19.setTop (mkF m 35 #[rv r0, iv p1] [])) t → Steps p.tables e below (s₁.setTop (entryFrame m #[(.ref r0), (.int p1)] 2)) t := by
        intro t kt
        refine pre21 _ ?_
        show Steps p.tables e below (T19.setTop (mkF m 19 #[rv r0, iv p1] [(.int p1), (.int x0)])) _
        refine XS.icmpYes X19.here hx rfl (pc0 := 19) (pc' := 35) rfl (hb hby d4_19) rfl (tlt hc19_22).1 (by decide) (by decide) ?_
        exact kt
      obtain ⟨fs, hr, hrun, hended, hW, hsame⟩ := X19.leave (v := none) (fun _ => rfl)
      refine ⟨_, _, pre23 _ ?_, hrun, hended, _, _, rfl, ?_, ⟨_, rfl⟩, hW, hsame.mono (by decide) (by decide)⟩
      · show Steps p.tables e below (T19.setTop (mkF m 35 #[rv r0, iv p1] [])) _
        exact X19.returnOut hx Bd.returns (hb hby d4_35) hr
      · show Q4c2 Z r0 p1 ab kc x0 x1 x2 x3 h0 n0 _ T19.heap _
        rw [e19]
        exact ⟨_, rfl, N13, K13, (F_offsets_r0.other W13 (Or.inr (slot_ne (Or.inl (hw _ (List.mem_of_getElem? (i := 12) rfl))) (Or.inl (hw _ (List.mem_of_getElem? (i := 19) rfl))) (by decide) (t := (.array .int)) (t' := .int) (by decide) (by decide)))), Fw13, (V_ab.other W13 (Ne.symm hne)), Or.inr (Or.inl ⟨hc19, hc19_22, rfl⟩)⟩
    · have pre24 : ∀ t, Steps p.tables e below (T19.setTop (mkF m 24 #[rv r0, iv p1] [(.ref r0), (.ref r0)])) t → Steps p.tables e below (s₁.setTop (entryFrame m #[(.ref r0), (.int p1)] 2)) t := by
        intro t kt
        refine pre21 _ ?_
        show Steps p.tables e below (T19.setTop (mkF m 19 #[rv r0, iv p1] [(.int p1), (.int x0)])) _
        refine XS.icmpNo X19.here hx rfl (hb hby d4_19) rfl (flt hc19_22).1 ?_
        refine XS.aloadN X19.here hx rfl (hb hby d4_22) rfl rfl ?_
        refine XS.dup X19.here hx rfl (hb hby d4_23) rfl rfl ?_
        exact kt
      obtain ⟨T25, X25, e25, st25⟩ := getF X19 hx hZ hown (host := "") (Or.inl (hw _ (List.mem_of_getElem? (i := 18) rfl))) Via.refl e19 Fw13 (g := (mkF m 24 #[rv r0, iv p1] [(.ref r0), (.ref r0)])) rfl rfl (hb hby d4_24)
      have pre26 : ∀ t, Steps p.tables e below (T25.setTop (mkF m 29 #[rv r0, iv p1] [(.int (0 : Int32)), (.ref r0)])) t → Steps p.tables e below (s₁.setTop (entryFrame m #[(.ref r0), (.int p1)] 2)) t := by
        intro t kt
        refine pre24 _ ?_
        show Steps p.tables e below (T19.setTop (mkF m 24 #[rv r0, iv p1] [(.ref r0), (.ref r0)])) _
        refine st25 _ ?_
        show Steps p.tables e below (T25.setTop (mkF m 27 #[rv r0, iv p1] [(.int (1 : Int32)), (.ref r0)])) _
        refine XS.iconst X25.here hx rfl (hb hby d4_27) ?_
        refine XS.isub X25.here hx rfl (hb hby d4_28) rfl ?_
        show Steps p.tables e below (T25.setTop (mkF m 29 #[rv r0, iv p1] [(.int ((1 : Int32) - (1 : Int32))), (.ref r0)])) _
        rw [show ((1 : Int32) - (1 : Int32)) = (0 : Int32) from (by decide)]
        exact kt
      obtain ⟨T27, h27, X27, e27, W27, st27⟩ := putF X25 hx hZ hown (host := "") (Or.inl (hw _ (List.mem_of_getElem? (i := 18) rfl))) Via.refl e25 Fw13 (E_r0.wr W13) (Or.inl (hw _ (List.mem_of_getElem? (i := 19) rfl))) (hw _ (List.mem_of_getElem? (i := 2) rfl)) (ty := .int) (by decide) rfl rfl (g := (mkF m 29 #[rv r0, iv p1] [(.int (0 : Int32)), (.ref r0)])) rfl rfl (hb hby d4_29)
      have Fw27 : Fld Z h27 r0 "com/example/bytewright/bytewright/grid/ObjectStarts" "count" "I" (.int (0 : Int32)) := Fw13.same W27
      have K27 : Keep h0 h27 [r0, ab] := K13.wr W27 (Or.inl (List.mem_of_getElem? (i := 0) rfl))
      have N27 := Fr.snoc X27 N13 g_r0
      have pre28 : ∀ t, Steps p.tables e below (T27.setTop (mkF m 1 #[rv r0, iv p1] [(.ref r0)])) t → Steps p.tables e below (s₁.setTop (entryFrame m #[(.ref r0), (.int p1)] 2)) t := by
        intro t kt
        refine pre26 _ ?_
        show Steps p.tables e below (T25.setTop (mkF m 29 #[rv r0, iv p1] [(.int (0 : Int32)), (.ref r0)])) _
        refine st27 _ ?_
        show Steps p.tables e below (T27.setTop (mkF m 32 #[rv r0, iv p1] [])) _
        refine XS.goto X27.here hx rfl (pc0 := 32) (pc' := 0) rfl (hb hby d4_32) (by decide) (by decide) ?_
        refine XS.aloadN X27.here hx rfl (hb hby d4_0) rfl rfl ?_
        exact kt
      obtain ⟨T29, X29, e29, st29⟩ := getF X27 hx hZ hown (host := "") (Or.inl (hw _ (List.mem_of_getElem? (i := 18) rfl))) Via.refl e27 Fw27 (g := (mkF m 1 #[rv r0, iv p1] [(.ref r0)])) rfl rfl (hb hby d4_1)
      have pre30 : ∀ t, Steps p.tables e below (T29.setTop (mkF m 35 #[rv r0, iv p1] [])) t → Steps p.tables e below (s₁.setTop (entryFrame m #[(.ref r0), (.int p1)] 2)) t := by
        intro t kt
        refine pre28 _ ?_
        show Steps p.tables e below (T27.setTop (mkF m 1 #[rv r0, iv p1] [(.ref r0)])) _
        refine st29 _ ?_
        show Steps p.tables e below (T29.setTop (mkF m 4 #[rv r0, iv p1] [(.int (0 : Int32))])) _
        refine XS.ifYes X29.here hx rfl (pc0 := 4) (pc' := 35) rfl (hb hby d4_4) rfl ((if0 _ _).trans (flt (by decide)).2.2.2) (by decide) (by decide) ?_
        exact kt
      obtain ⟨fs, hr, hrun, hended, hW, hsame⟩ := X29.leave (v := none) (fun _ => rfl)
      refine ⟨_, _, pre30 _ ?_, hrun, hended, _, _, rfl, ?_, ⟨_, rfl⟩, hW, hsame.mono (by decide) (by decide)⟩
      · show Steps p.tables e below (T29.setTop (mkF m 35 #[rv r0, iv p1] [])) _
        exact X29.returnOut hx Bd.returns (hb hby d4_35) hr
      · show Q4c2 Z r0 p1 ab kc x0 x1 x2 x3 h0 n0 _ T29.heap _
        rw [e29]
        exact ⟨_, rfl, N27, K27, ((F_offsets_r0.other W13 (Or.inr (slot_ne (Or.inl (hw _ (List.mem_of_getElem? (i := 12) rfl))) (Or.inl (hw _ (List.mem_of_getElem? (i := 19) rfl))) (by decide) (t := (.array .int)) (t' := .int) (by decide) (by decide)))).other W27 (Or.inr (slot_ne (Or.inl (hw _ (List.mem_of_getElem? (i := 12) rfl))) (Or.inl (hw _ (List.mem_of_getElem? (i := 19) rfl))) (by decide) (t := (.array .int)) (t' := .int) (by decide) (by decide)))), Fw27, ((V_ab.other W13 (Ne.symm hne)).other W27 (Ne.symm hne)), Or.inr (Or.inr (⟨hc19, hc19_22, rfl⟩))⟩

theorem ef_4c3 (m : MethodId) (x0 : Addr) (x1 : Int32) : entryFrame m #[(.ref x0), (.int x1)] 2 = mkF m 0 #[.val (.ref x0), .val (.int x1)] [] := by first | (simp [entryFrame, mkF, argsToLocals, Value.category]; done) | rfl
def Q4c3 (Z : State) (r0 : Addr) (p1 : Int32) (ab : Addr) (kc : ClassId) (x0 : Int32) (x1 : Int32) (x2 : Int32) (x3 : Int32) (h0 : Heap) (n0 : Nat) (v : Option Value) (h : Heap) (L : List Loc) : Prop := ∃ kk, v = none ∧ Fr n0 L ∧ Keep h0 h [r0, ab] ∧ Fld Z h r0 "com/example/bytewright/bytewright/grid/ObjectStarts" "offsets" "[I" (.ref ab) ∧ Fld Z h r0 "com/example/bytewright/bytewright/grid/ObjectStarts" "count" "I" (.int kk) ∧ Arv Z h ab kc .int (16 : Int32) [(.int x0), (.int x1), (.int x2), (.int x3), (.int (0 : Int32)), (.int (0 : Int32)), (.int (0 : Int32)), (.int (0 : Int32)), (.int (0 : Int32)), (.int (0 : Int32)), (.int (0 : Int32)), (.int (0 : Int32)), (.int (0 : Int32)), (.int (0 : Int32)), (.int (0 : Int32)), (.int (0 : Int32))] (.int (0 : Int32)) ∧ ((x2 < p1 ∧ kk = (3 : Int32)) ∨ (¬ (x2 < p1) ∧ x1 < p1 ∧ kk = (2 : Int32)) ∨ (¬ (x2 < p1) ∧ ¬ (x1 < p1) ∧ x0 < p1 ∧ kk = (1 : Int32)) ∨ (¬ (x2 < p1) ∧ ¬ (x1 < p1) ∧ ¬ (x0 < p1) ∧ kk = (0 : Int32)))
set_option maxRecDepth 65536 in
set_option maxHeartbeats 40000000 in
theorem rm4c3 (l : Launch) (Z : State) (a0 : Array Value) (hw : ∀ d ∈ tables_1, d.before a0 Z = true) (ws : List Jvm.Cond) (r0 : Addr) (p1 : Int32) (ab : Addr) (kc : ClassId) (x0 : Int32) (x1 : Int32) (x2 : Int32) (x3 : Int32) (h0 : Heap) (n0 : Nat) (Z0 : n0 ≤ h0.size) (F_offsets_r0 : Fld Z h0 r0 "com/example/bytewright/bytewright/grid/ObjectStarts" "offsets" "[I" (.ref ab)) (F_count_r0 : Fld Z h0 r0 "com/example/bytewright/bytewright/grid/ObjectStarts" "count" "I" (.int (3 : Int32))) (E_r0 : Exa Z h0 r0 "com/example/bytewright/bytewright/grid/ObjectStarts") (g_r0 : n0 ≤ r0) (V_ab : Arv Z h0 ab kc .int (16 : Int32) [(.int x0), (.int x1), (.int x2), (.int x3), (.int (0 : Int32)), (.int (0 : Int32)), (.int (0 : Int32)), (.int (0 : Int32)), (.int (0 : Int32)), (.int (0 : Int32)), (.int (0 : Int32)), (.int (0 : Int32)), (.int (0 : Int32)), (.int (0 : Int32)), (.int (0 : Int32)), (.int (0 : Int32))] (.int (0 : Int32))) (g_ab : n0 ≤ ab) (hne : r0 ≠ ab) :
    MetFree l (⟨"com/example/bytewright/bytewright/grid/ObjectStarts", "forgetFrom", "(I)V"⟩ : MethodName) (head1 (Jvm.Cond.code (⟨"com/example/bytewright/bytewright/grid/ObjectStarts", "forgetFrom", "(I)V"⟩ : MethodName) prog_53_method_3_code 2 none :: ws) ({ frames := 0, cells := 0, slots := 0, locals := 0 } : Room)) (fun a U => a = #[(.ref r0), (.int p1)] ∧ Z.Warmed39 U.vm ∧ U.heap = h0) (fun _ _ _ _ _ => True) (fun _ U o U' => ∃ v L, o = .returned v ∧ Q4c3 Z r0 p1 ab kc x0 x1 x2 x3 h0 n0 v U'.heap L ∧ FrameEnd U o U' L ({ frames := 0, cells := 0, slots := 0, locals := 0 } : Room).cells ({ frames := 0, cells := 0, slots := 0, locals := 0 } : Room).slots) := by
  refine MetFree.of_bodySF (plainFor_of_name pn0) hisR ?_
  intro p e s m args below meth c s₁ Bd hml0 hP hK
  obtain ⟨rfl, hZ, hh⟩ := hP
  have hx := Bd.exec
  have hby := Bd.bytes
  have hml : c.maxLocals = 2 := hml0
  have hown : s.vm.findClass "com/example/bytewright/bytewright/grid/ObjectStarts" = some m.cls := findClass_of_methodNamed Bd.named
  have hnm := (name_of_methodNamed Bd.named Bd.method).1
  have X0 : Stand p l e ({ frames := 0, cells := 0, slots := 0, locals := 0 } : Room) s m #[(.ref r0), (.int p1)] below meth c s₁ [] 0 0 := Stand.of_body Bd
  have e0 : s₁.heap = h0 := by rw [← hh, Bd.state]; rfl
  have N0 := Fr.nil n0
  have pre0 : ∀ t, Steps p.tables e below (s₁.setTop (mkF m 0 #[rv r0, iv p1] [])) t → Steps p.tables e below (s₁.setTop (entryFrame m #[(.ref r0), (.int p1)] 2)) t := fun t k => castTop (ef_4c3 m r0 p1) k
  have pre1 : ∀ t, Steps p.tables e below (s₁.setTop (mkF m 1 #[rv r0, iv p1] [(.ref r0)])) t → Steps p.tables e below (s₁.setTop (entryFrame m #[(.ref r0), (.int p1)] 2)) t := by
    intro t kt
    refine pre0 _ ?_
    show Steps p.tables e below (s₁.setTop (mkF m 0 #[rv r0, iv p1] [])) _
    refine XS.aloadN X0.here hx rfl (hb hby d4_0) rfl rfl ?_
    exact kt
  obtain ⟨T2, X2, e2, st2⟩ := getF X0 hx hZ hown (host := "") (Or.inl (hw _ (List.mem_of_getElem? (i := 18) rfl))) Via.refl e0 F_count_r0 (g := (mkF m 1 #[rv r0, iv p1] [(.ref r0)])) rfl rfl (hb hby d4_1)
  have pre3 : ∀ t, Steps p.tables e below (T2.setTop (mkF m 8 #[rv r0, iv p1] [(.ref r0)])) t → Steps p.tables e below (s₁.setTop (entryFrame m #[(.ref r0), (.int p1)] 2)) t := by
    intro t kt
    refine pre1 _ ?_
    show Steps p.tables e below (s₁.setTop (mkF m 1 #[rv r0, iv p1] [(.ref r0)])) _
    refine st2 _ ?_
    show Steps p.tables e below (T2.setTop (mkF m 4 #[rv r0, iv p1] [(.int (3 : Int32))])) _
    refine XS.ifNo X2.here hx rfl (hb hby d4_4) rfl ((if0 _ _).trans (tlt (by decide)).2.2.2) ?_
    refine XS.aloadN X2.here hx rfl (hb hby d4_7) rfl rfl ?_
    exact kt
  obtain ⟨T4, X4, e4, st4⟩ := getF X2 hx hZ hown (host := "") (Or.inl (hw _ (List.mem_of_getElem? (i := 11) rfl))) Via.refl e2 F_offsets_r0 (g := (mkF m 8 #[rv r0, iv p1] [(.ref r0)])) rfl rfl (hb hby d4_8)
  have pre5 : ∀ t, Steps p.tables e below (T4.setTop (mkF m 12 #[rv r0, iv p1] [(.ref r0), (.ref ab)])) t → Steps p.tables e below (s₁.setTop (entryFrame m #[(.ref r0), (.int p1)] 2)) t := by
    intro t kt
    refine pre3 _ ?_
    show Steps p.tables e below (T2.setTop (mkF m 8 #[rv r0, iv p1] [(.ref r0)])) _
    refine st4 _ ?_
    show Steps p.tables e below (T4.setTop (mkF m 11 #[rv r0, iv p1] [(.ref ab)])) _
    refine XS.aloadN X4.here hx rfl (hb hby d4_11) rfl rfl ?_
    exact kt
  obtain ⟨T6, X6, e6, st6⟩ := getF X4 hx hZ hown (host := "") (Or.inl (hw _ (List.mem_of_getElem? (i := 18) rfl))) Via.refl e4 F_count_r0 (g := (mkF m 12 #[rv r0, iv p1] [(.ref r0), (.ref ab)])) rfl rfl (hb hby d4_12)
  obtain ⟨cl7, Ar7, q7, S7, M7, H7, G7⟩ := id V_ab
  have hin7 : ¬ ((2 : Int32) < 0 ∨ cl7.slots.size ≤ ((2 : Int32)).toNatClampNeg) := inb_of S7 ⟨by decide, by decide⟩
  have hat7 : cl7.slots[((2 : Int32)).toNatClampNeg]? = some (.int x2) := H7.at hin7 rfl
  have pre8 : ∀ t, Steps p.tables e below (T6.setTop (mkF m 19 #[rv r0, iv p1] [(.int p1), (.int x2)])) t → Steps p.tables e below (s₁.setTop (entryFrame m #[(.ref r0), (.int p1)] 2)) t := by
    intro t kt
    refine pre5 _ ?_
    show Steps p.tables e below (T4.setTop (mkF m 12 #[rv r0, iv p1] [(.ref r0), (.ref ab)])) _
    refine st6 _ ?_
    show Steps p.tables e below (T6.setTop (mkF m 15 #[rv r0, iv p1] [(.int (3 : Int32)), (.ref ab)])) _
    refine XS.iconst X6.here hx rfl (hb hby d4_15) ?_
    refine XS.isub X6.here hx rfl (hb hby d4_16) rfl ?_
    show Steps p.tables e below (T6.setTop (mkF m 17 #[rv r0, iv p1] [(.int ((3 : Int32) - (1 : Int32))), (.ref ab)])) _
    rw [show ((3 : Int32) - (1 : Int32)) = (2 : Int32) from (by decide)]
    show Steps p.tables e below (T6.setTop (mkF m 17 #[rv r0, iv p1] [(.int (2 : Int32)), (.ref ab)])) _
    refine X6.iaload hx (j := (2 : Int32)) (v := (.int x2)) (by rw [e6]; exact Ar7.1) (State.isArrayOf_alike hZ.alike Ar7.2.1) Ar7.2.2 hin7 hat7 (g := (mkF m 17 #[rv r0, iv p1] [(.int (2 : Int32)), (.ref ab)])) rfl rfl (hb hby d4_17) _ ?_
    show Steps p.tables e below (T6.setTop (mkF m 18 #[rv r0, iv p1] [(.int x2)])) _
    refine XS.iloadN X6.here hx rfl (hb hby d4_18) rfl ?_
    exact kt
  by_cases hc19 : x2 < p1
  · have pre9 : ∀ t, Steps p.tables e below (T6.setTop (mkF m 35 #[rv r0, iv p1] [])) t → Steps p.tables e below (s₁.setTop (entryFrame m #[(.ref r0), (.int p1)] 2)) t := by
      intro t kt
      refine pre8 _ ?_
      show Steps p.tables e below (T6.setTop (mkF m 19 #[rv r0, iv p1] [(.int p1), (.int x2)])) _
      refine XS.icmpYes X6.here hx rfl (pc0 := 19) (pc' := 35) rfl (hb hby d4_19) rfl (tlt hc19).1 (by decide) (by decide) ?_
      exact kt
    obtain ⟨fs, hr, hrun, hended, hW, hsame⟩ := X6.leave (v := none) (fun _ => rfl)
    refine ⟨_, _, pre9 _ ?_, hrun, hended, _, _, rfl, ?_, ⟨_, rfl⟩, hW, hsame.mono (by decide) (by decide)⟩
    · show Steps p.tables e below (T6.setTop (mkF m 35 #[rv r0, iv p1] [])) _
      exact X6.returnOut hx Bd.returns (hb hby d4_35) hr
    · show Q4c3 Z r0 p1 ab kc x0 x1 x2 x3 h0 n0 _ T6.heap _
      rw [e6]
      exact ⟨_, rfl, N0, (Keep.refl h0 [r0, ab]), F_offsets_r0, F_count_r0, V_ab, Or.inl ⟨hc19, rfl⟩⟩
  · have pre10 : ∀ t, Steps p.tables e below (T6.setTop (mkF m 24 #[rv r0, iv p1] [(.ref r0), (.ref r0)])) t → Steps p.tables e below (s₁.setTop (entryFrame m #[(.ref r0), (.int p1)] 2)) t := by
      intro t kt
      refine pre8 _ ?_
      show Steps p.tables e below (T6.setTop (mkF m 19 #[rv r0, iv p1] [(.int p1), (.int x2)])) _
      refine XS.icmpNo X6.here hx rfl (hb hby d4_19) rfl (flt hc19).1 ?_
      refine XS.aloadN X6.here hx rfl (hb hby d4_22) rfl rfl ?_
      refine XS.dup X6.here hx rfl (hb hby d4_23) rfl rfl ?_
      exact kt
    obtain ⟨T11, X11, e11, st11⟩ := getF X6 hx hZ hown (host := "") (Or.inl (hw _ (List.mem_of_getElem? (i := 18) rfl))) Via.refl e6 F_count_r0 (g := (mkF m 24 #[rv r0, iv p1] [(.ref r0), (.ref r0)])) rfl rfl (hb hby d4_24)
    have pre12 : ∀ t, Steps p.tables e below (T11.setTop (mkF m 29 #[rv r0, iv p1] [(.int (2 : Int32)), (.ref r0)])) t → Steps p.tables e below (s₁.setTop (entryFrame m #[(.ref r0), (.int p1)] 2)) t := by
      intro t kt
      refine pre10 _ ?_
      show Steps p.tables e below (T6.setTop (mkF m 24 #[rv r0, iv p1] [(.ref r0), (.ref r0)])) _
      refine st11 _ ?_
      show Steps p.tables e below (T11.setTop (mkF m 27 #[rv r0, iv p1] [(.int (3 : Int32)), (.ref r0)])) _
      refine XS.iconst X11.here hx rfl (hb hby d4_27) ?_
      refine XS.isub X11.here hx rfl (hb hby d4_28) rfl ?_
      show Steps p.tables e below (T11.setTop (mkF m 29 #[rv r0, iv p1] [(.int ((3 : Int32) - (1 : Int32))), (.ref r0)])) _
      rw [show ((3 : Int32) - (1 : Int32)) = (2 : Int32) from (by decide)]
      exact kt
    obtain ⟨T13, h13, X13, e13, W13, st13⟩ := putF X11 hx hZ hown (host := "") (Or.inl (hw _ (List.mem_of_getElem? (i := 18) rfl))) Via.refl e11 F_count_r0 E_r0 (Or.inl (hw _ (List.mem_of_getElem? (i := 19) rfl))) (hw _ (List.mem_of_getElem? (i := 2) rfl)) (ty := .int) (by decide) rfl rfl (g := (mkF m 29 #[rv r0, iv p1] [(.int (2 : Int32)), (.ref r0)])) rfl rfl (hb hby d4_29)
    have Fw13 : Fld Z h13 r0 "com/example/bytewright/bytewright/grid/ObjectStarts" "count" "I" (.int (2 : Int32)) := F_count_r0.same W13
    have K13 : Keep h0 h13 [r0, ab] := (Keep.refl h0 [r0, ab]).wr W13 (Or.inl (List.mem_of_getElem? (i := 0) rfl))
    have N13 := Fr.snoc X13 N0 g_r0
    have pre14 : ∀ t, Steps p.tables e below (T13.setTop (mkF m 1 #[rv r0, iv p1] [(.ref r0)])) t → Steps p.tables e below (s₁.setTop (entryFrame m #[(.ref r0), (.int p1)] 2)) t := by
      intro t kt
      refine pre12 _ ?_
      show Steps p.tables e below (T11.setTop (mkF m 29 #[rv r0, iv p1] [(.int (2 : Int32)), (.ref r0)])) _
      refine st13 _ ?_
      show Steps p.tables e below (T13.setTop (mkF m 32 #[rv r0, iv p1] [])) _
      refine XS.goto X13.here hx rfl (pc0 := 32) (pc' := 0) rfl (hb hby d4_32) (by decide) (by decide) ?_
      refine XS.aloadN X13.here hx rfl (hb hby d4_0) rfl rfl ?_
      exact kt
    obtain ⟨T15, X15, e15, st15⟩ := getF X13 hx hZ hown (host := "") (Or.inl (hw _ (List.mem_of_getElem? (i := 18) rfl))) Via.refl e13 Fw13 (g := (mkF m 1 #[rv r0, iv p1] [(.ref r0)])) rfl rfl (hb hby d4_1)
    have pre16 : ∀ t, Steps p.tables e below (T15.setTop (mkF m 8 #[rv r0, iv p1] [(.ref r0)])) t → Steps p.tables e below (s₁.setTop (entryFrame m #[(.ref r0), (.int p1)] 2)) t := by
      intro t kt
      refine pre14 _ ?_
      show Steps p.tables e below (T13.setTop (mkF m 1 #[rv r0, iv p1] [(.ref r0)])) _
      refine st15 _ ?_
      show Steps p.tables e below (T15.setTop (mkF m 4 #[rv r0, iv p1] [(.int (2 : Int32))])) _
      refine XS.ifNo X15.here hx rfl (hb hby d4_4) rfl ((if0 _ _).trans (tlt (by decide)).2.2.2) ?_
      refine XS.aloadN X15.here hx rfl (hb hby d4_7) rfl rfl ?_
      exact kt
    obtain ⟨T17, X17, e17, st17⟩ := getF X15 hx hZ hown (host := "") (Or.inl (hw _ (List.mem_of_getElem? (i := 11) rfl))) Via.refl e15 (F_offsets_r0.other W13 (Or.inr (slot_ne (Or.inl (hw _ (List.mem_of_getElem? (i := 12) rfl))) (Or.inl (hw _ (List.mem_of_getElem? (i := 19) rfl))) (by decide) (t := (.array .int)) (t' := .int) (by decide) (by decide)))) (g := (mkF m 8 #[rv r0, iv p1] [(.ref r0)])) rfl rfl (hb hby d4_8)
    have pre18 : ∀ t, Steps p.tables e below (T17.setTop (mkF m 12 #[rv r0, iv p1] [(.ref r0), (.ref ab)])) t → Steps p.tables e below (s₁.setTop (entryFrame m #[(.ref r0), (.int p1)] 2)) t := by
      intro t kt
      refine pre16 _ ?_
      show Steps p.tables e below (T15.setTop (mkF m 8 #[rv r0, iv p1] [(.ref r0)])) _
      refine st17 _ ?_
      show Steps p.tables e below (T17.setTop (mkF m 11 #[rv r0, iv p1] [(.ref ab)])) _
      refine XS.aloadN X17.here hx rfl (hb hby d4_11) rfl rfl ?_
      exact kt
    obtain ⟨T19, X19, e19, st19⟩ := getF X17 hx hZ hown (host := "") (Or.inl (hw _ (List.mem_of_getElem? (i := 18) rfl))) Via.refl e17 Fw13 (g := (mkF m 12 #[rv r0, iv p1] [(.ref r0), (.ref ab)])) rfl rfl (hb hby d4_12)
    obtain ⟨cl20, Ar20, q20, S20, M20, H20, G20⟩ := id (V_ab.other W13 (Ne.symm hne))
    have hin20 : ¬ ((1 : Int32) < 0 ∨ cl20.slots.size ≤ ((1 : Int32)).toNatClampNeg) := inb_of S20 ⟨by decide, by decide⟩
    have hat20 : cl20.slots[((1 : Int32)).toNatClampNeg]? = some (.int x1) := H20.at hin20 rfl
    have pre21 : ∀ t, Steps p.tables e below (T19.setTop (mkF m 19 #[rv r0, iv p1] [(.int p1), (.int x1)])) t → Steps p.tables e below (s₁.setTop (entryFrame m #[(.ref r0), (.int p1)] 2)) t := by
      intro t kt
      refine pre18 _ ?_
      show Steps p.tables e below (T17.setTop (mkF m 12 #[rv r0, iv p1] [(.ref r0), (.ref ab)])) _
      refine st19 _ ?_
      show Steps p.tables e below (T19.setTop (mkF m 15 #[rv r0, iv p1] [(.int (2 : Int32)), (.ref ab)])) _
      refine XS.iconst X19.here hx rfl (hb hby d4_15) ?_
      refine XS.isub X19.here hx rfl (hb hby d4_16) rfl ?_
      show Steps p.tables e below (T19.setTop (mkF m 17 #[rv r0, iv p1] [(.int ((2 : Int32) - (1 : Int32))), (.ref ab)])) _
      rw [show ((2 : Int32) - (1 : Int32)) = (1 : Int32) from (by decide)]
      show Steps p.tables e below (T19.setTop (mkF m 17 #[rv r0, iv p1] [(.int (1 : Int32)), (.ref ab)])) _
      refine X19.iaload hx (j := (1 : Int32)) (v := (.int x1)) (by rw [e19]; exact Ar20.1) (State.isArrayOf_alike hZ.alike Ar20.2.1) Ar20.2.2 hin20 hat20 (g := (mkF m 17 #[rv r0, iv p1] [(.int (1 : Int32)), (.ref ab)])) rfl rfl (hb hby d4_17) _ ?_
      show Steps p.tables e below (T19.setTop (mkF m 18 #[rv r0, iv p1] [(.int x1)])) _
      refine XS.iloadN X19.here hx rfl (hb hby d4_18) rfl ?_
      exact kt
    by_cases hc19_22 : x1 < p1
    · have pre23 : ∀ t, Steps p.tables e below (T19.setTop (mkF m 35 #[rv r0, iv p1] [])) t → Steps p.tables e below (s₁.setTop (entryFrame m #[(.ref r0), (.int p1)] 2)) t := by
        intro t kt
        refine pre21 _ ?_
        show Steps p.tables e below (T19.setTop (mkF m 19 #[rv r0, iv p1] [(.int p1), (.int x1)])) _
        refine XS.icmpYes X19.here hx rfl (pc0 := 19) (pc' := 35) rfl (hb hby d4_19) rfl (tlt hc19_22).1 (by decide) (by decide) ?_
        exact kt
      obtain ⟨fs, hr, hrun, hended, hW, hsame⟩ := X19.leave (v := none) (fun _ => rfl)
      refine ⟨_, _, pre23 _ ?_, hrun, hended, _, _, rfl, ?_, ⟨_, rfl⟩, hW, hsame.mono (by decide) (by decide)⟩
      · show Steps p.tables e below (T19.setTop (mkF m 35 #[rv r0, iv p1] [])) _
        exact X19.returnOut hx Bd.returns (hb hby d4_35) hr
      · show Q4c3 Z r0 p1 ab kc x0 x1 x2 x3 h0 n0 _ T19.heap _
        rw [e19]
        exact ⟨_, rfl, N13, K13, (F_offsets_r0.other W13 (Or.inr (slot_ne (Or.inl (hw _ (List.mem_of_getElem? (i := 12) rfl))) (Or.inl (hw _ (List.mem_of_getElem? (i := 19) rfl))) (by decide) (t := (.array .int)) (t' := .int) (by decide) (by decide)))), Fw13, (V_ab.other W13 (Ne.symm hne)), Or.inr (Or.inl ⟨hc19, hc19_22, rfl⟩)⟩
    · have pre24 : ∀ t, Steps p.tables e below (T19.setTop (mkF m 24 #[rv r0, iv p1] [(.ref r0), (.ref r0)])) t → Steps p.tables e below (s₁.setTop (entryFrame m #[(.ref r0), (.int p1)] 2)) t := by
        intro t kt
        refine pre21 _ ?_
        show Steps p.tables e below (T19.setTop (mkF m 19 #[rv r0, iv p1] [(.int p1), (.int x1)])) _
        refine XS.icmpNo X19.here hx rfl (hb hby d4_19) rfl (flt hc19_22).1 ?_
        refine XS.aloadN X19.here hx rfl (hb hby d4_22) rfl rfl ?_
        refine XS.dup X19.here hx rfl (hb hby d4_23) rfl rfl ?_
        exact kt
      obtain ⟨T25, X25, e25, st25⟩ := getF X19 hx hZ hown (host := "") (Or.inl (hw _ (List.mem_of_getElem? (i := 18) rfl))) Via.refl e19 Fw13 (g := (mkF m 24 #[rv r0, iv p1] [(.ref r0), (.ref r0)])) rfl rfl (hb hby d4_24)
      have pre26 : ∀ t, Steps p.tables e below (T25.setTop (mkF m 29 #[rv r0, iv p1] [(.int (1 : Int32)), (.ref r0)])) t → Steps p.tables e below (s₁.setTop (entryFrame m #[(.ref r0), (.int p1)] 2)) t := by
        intro t kt
        refine pre24 _ ?_
        show Steps p.tables e below (T19.setTop (mkF m 24 #[rv r0, iv p1] [(.ref r0), (.ref r0)])) _
        refine st25 _ ?_
        show Steps p.tables e below (T25.setTop (mkF m 27 #[rv r0, iv p1] [(.int (2 : Int32)), (.ref r0)])) _
        refine XS.iconst X25.here hx rfl (hb hby d4_27) ?_
        refine XS.isub X25.here hx rfl (hb hby d4_28) rfl ?_
        show Steps p.tables e below (T25.setTop (mkF m 29 #[rv r0, iv p1] [(.int ((2 : Int32) - (1 : Int32))), (.ref r0)])) _
        rw [show ((2 : Int32) - (1 : Int32)) = (1 : Int32) from (by decide)]
        exact kt
      obtain ⟨T27, h27, X27, e27, W27, st27⟩ := putF X25 hx hZ hown (host := "") (Or.inl (hw _ (List.mem_of_getElem? (i := 18) rfl))) Via.refl e25 Fw13 (E_r0.wr W13) (Or.inl (hw _ (List.mem_of_getElem? (i := 19) rfl))) (hw _ (List.mem_of_getElem? (i := 2) rfl)) (ty := .int) (by decide) rfl rfl (g := (mkF m 29 #[rv r0, iv p1] [(.int (1 : Int32)), (.ref r0)])) rfl rfl (hb hby d4_29)
      have Fw27 : Fld Z h27 r0 "com/example/bytewright/bytewright/grid/ObjectStarts" "count" "I" (.int (1 : Int32)) := Fw13.same W27
      have K27 : Keep h0 h27 [r0, ab] := K13.wr W27 (Or.inl (List.mem_of_getElem? (i := 0) rfl))
      have N27 := Fr.snoc X27 N13 g_r0
      have pre28 : ∀ t, Steps p.tables e below (T27.setTop (mkF m 1 #[rv r0, iv p1] [(.ref r0)])) t → Steps p.tables e below (s₁.setTop (entryFrame m #[(.ref r0), (.int p1)] 2)) t := by
        intro t kt
        refine pre26 _ ?_
        show Steps p.tables e below (T25.setTop (mkF m 29 #[rv r0, iv p1] [(.int (1 : Int32)), (.ref r0)])) _
        refine st27 _ ?_
        show Steps p.tables e below (T27.setTop (mkF m 32 #[rv r0, iv p1] [])) _
        refine XS.goto X27.here hx rfl (pc0 := 32) (pc' := 0) rfl (hb hby d4_32) (by decide) (by decide) ?_
        refine XS.aloadN X27.here hx rfl (hb hby d4_0) rfl rfl ?_
        exact kt
      obtain ⟨T29, X29, e29, st29⟩ := getF X27 hx hZ hown (host := "") (Or.inl (hw _ (List.mem_of_getElem? (i := 18) rfl))) Via.refl e27 Fw27 (g := (mkF m 1 #[rv r0, iv p1] [(.ref r0)])) rfl rfl (hb hby d4_1)
      have pre30 : ∀ t, Steps p.tables e below (T29.setTop (mkF m 8 #[rv r0, iv p1] [(.ref r0)])) t → Steps p.tables e below (s₁.setTop (entryFrame m #[(.ref r0), (.int p1)] 2)) t := by
        intro t kt
        refine pre28 _ ?_
        show Steps p.tables e below (T27.setTop (mkF m 1 #[rv r0, iv p1] [(.ref r0)])) _
        refine st29 _ ?_
        show Steps p.tables e below (T29.setTop (mkF m 4 #[rv r0, iv p1] [(.int (1 : Int32))])) _
        refine XS.ifNo X29.here hx rfl (hb hby d4_4) rfl ((if0 _ _).trans (tlt (by decide)).2.2.2) ?_
        refine XS.aloadN X29.here hx rfl (hb hby d4_7) rfl rfl ?_
        exact kt
      obtain ⟨T31, X31, e31, st31⟩ := getF X29 hx hZ hown (host := "") (Or.inl (hw _ (List.mem_of_getElem? (i := 11) rfl))) Via.refl e29 ((F_offsets_r0.other W13 (Or.inr (slot_ne (Or.inl (hw _ (List.mem_of_getElem? (i := 12) rfl))) (Or.inl (hw _ (List.mem_of_getElem? (i := 19) rfl))) (by decide) (t := (.array .int)) (t' := .int) (by decide) (by decide)))).other W27 (Or.inr (slot_ne (Or.inl (hw _ (List.mem_of_getElem? (i := 12) rfl))) (Or.inl (hw _ (List.mem_of_getElem? (i := 19) rfl))) (by decide) (t := (.array .int)) (t' := .int) (by decide) (by decide)))) (g := (mkF m 8 #[rv r0, iv p1] [(.ref r0)])) rfl rfl (hb hby d4_8)
      have pre32 : ∀ t, Steps p.tables e below (T31.setTop (mkF m 12 #[rv r0, iv p1] [(.ref r0), (.ref ab)])) t → Steps p.tables e below (s₁.setTop (entryFrame m #[(.ref r0), (.int p1)] 2)) t := by
        intro t kt
        refine pre30 _ ?_
        show Steps p.tables e below (T29.setTop (mkF m 8 #[rv r0, iv p1] [(.ref r0)])) _
        refine st31 _ ?_
        show Steps p.tables e below (T31.setTop (mkF m 11 #[rv r0, iv p1] [(.ref ab)])) _
        refine XS.aloadN X31.here hx rfl (hb hby d4_11) rfl rfl ?_
        exact kt
      obtain ⟨T33, X33, e33, st33⟩ := getF X31 hx hZ hown (host := "") (Or.inl (hw _ (List.mem_of_getElem? (i := 18) rfl))) Via.refl e31 Fw27 (g := (mkF m 12 #[rv r0, iv p1] [(.ref r0), (.ref ab)])) rfl rfl (hb hby d4_12)
      obtain ⟨cl34, Ar34, q34, S34, M34, H34, G34⟩ := id ((V_ab.other W13 (Ne.symm hne)).other W27 (Ne.symm hne))
      have hin34 : ¬ ((0 : Int32) < 0 ∨ cl34.slots.size ≤ ((0 : Int32)).toNatClampNeg) := inb_of S34 ⟨by decide, by decide⟩
      have hat34 : cl34.slots[((0 : Int32)).toNatClampNeg]? = some (.int x0) := H34.at hin34 rfl
      have pre35 : ∀ t, Steps p.tables e below (T33.setTop (mkF m 19 #[rv r0, iv p1] [(.int p1), (.int x0)])) t → Steps p.tables e below (s₁.setTop (entryFrame m #[(.ref r0), (.int p1)] 2)) t := by
        intro t kt
        refine pre32 _ ?_
        show Steps p.tables e below (T31.setTop (mkF m 12 #[rv r0, iv p1] [(.ref r0), (.ref ab)])) _
        refine st33 _ ?_
        show Steps p.tables e below (T33.setTop (mkF m 15 #[rv r0, iv p1] [(.int (1 : Int32)), (.ref ab)])) _
        refine XS.iconst X33.here hx rfl (hb hby d4_15) ?_
        refine XS.isub X33.here hx rfl (hb hby d4_16) rfl ?_
        show Steps p.tables e below (T33.setTop (mkF m 17 #[rv r0, iv p1] [(.int ((1 : Int32) - (1 : Int32))), (.ref ab)])) _
        rw [show ((1 : Int32) - (1 : Int32)) = (0 : Int32) from (by decide)]
        show Steps p.tables e below (T33.setTop (mkF m 17 #[rv r0, iv p1] [(.int (0 : Int32)), (.ref ab)])) _
        refine X33.iaload hx (j := (0 : Int32)) (v := (.int x0)) (by rw [e33]; exact Ar34.1) (State.isArrayOf_alike hZ.alike Ar34.2.1) Ar34.2.2 hin34 hat34 (g := (mkF m 17 #[rv r0, iv p1] [(.int (0 : Int32)), (.ref ab)])) rfl rfl (hb hby d4_17) _ ?_
        show Steps p.tables e below (T33.setTop (mkF m 18 #[rv r0, iv p1] [(.int x0)])) _
        refine XS.iloadN X33.here hx rfl (hb hby d4_18) rfl ?_
        exact kt
      by_cases hc19_36 : x0 < p1
      · have pre37 : ∀ t, Steps p.tables e below (T33.setTop (mkF m 35 #[rv r0, iv p1] [])) t → Steps p.tables e below (s₁.setTop (entryFrame m #[(.ref r0), (.int p1)] 2)) t := by
          intro t kt
          refine pre35 _ ?_
          show Steps p.tables e below (T33.setTop (mkF m 19 #[rv r0, iv p1] [(.int p1), (.int x0)])) _
          refine XS.icmpYes X33.here hx rfl (pc0 := 19) (pc' := 35) rfl (hb hby d4_19) rfl (tlt hc19_36).1 (by decide) (by decide) ?_
          exact kt
        obtain ⟨fs, hr, hrun, hended, hW, hsame⟩ := X33.leave (v := none) (fun _ => rfl)
        refine ⟨_, _, pre37 _ ?_, hrun, hended, _, _, rfl, ?_, ⟨_, rfl⟩, hW, hsame.mono (by decide) (by decide)⟩
        · show Steps p.tables e below (T33.setTop (mkF m 35 #[rv r0, iv p1] [])) _
          exact X33.returnOut hx Bd.returns (hb hby d4_35) hr
        · show Q4c3 Z r0 p1 ab kc x0 x1 x2 x3 h0 n0 _ T33.heap _
          rw [e33]
          exact ⟨_, rfl, N27, K27, ((F_offsets_r0.other W13 (Or.inr (slot_ne (Or.inl (hw _ (List.mem_of_getElem? (i := 12) rfl))) (Or.inl (hw _ (List.mem_of_getElem? (i := 19) rfl))) (by decide) (t := (.array .int)) (t' := .int) (by decide) (by decide)))).other W27 (Or.inr (slot_ne (Or.inl (hw _ (List.mem_of_getElem? (i := 12) rfl))) (Or.inl (hw _ (List.mem_of_getElem? (i := 19) rfl))) (by decide) (t := (.array .int)) (t' := .int) (by decide) (by decide)))), Fw27, ((V_ab.other W13 (Ne.symm hne)).other W27 (Ne.symm hne)), Or.inr (Or.inr (Or.inl ⟨hc19, hc19_22, hc19_36, rfl⟩))⟩
      · have pre38 : ∀ t, Steps p.tables e below (T33.setTop (mkF m 24 #[rv r0, iv p1] [(.ref r0), (.ref r0)])) t → Steps p.tables e below (s₁.setTop (entryFrame m #[(.ref r0), (.int p1)] 2)) t := by
          intro t kt
          refine pre35 _ ?_
          show Steps p.tables e below (T33.setTop (mkF m 19 #[rv r0, iv p1] [(.int p1), (.int x0)])) _
          refine XS.icmpNo X33.here hx rfl (hb hby d4_19) rfl (flt hc19_36).1 ?_
          refine XS.aloadN X33.here hx rfl (hb hby d4_22) rfl rfl ?_
          refine XS.dup X33.here hx rfl (hb hby d4_23) rfl rfl ?_
          exact kt
        obtain ⟨T39, X39, e39, st39⟩ := getF X33 hx hZ hown (host := "") (Or.inl (hw _ (List.mem_of_getElem? (i := 18) rfl))) Via.refl e33 Fw27 (g := (mkF m 24 #[rv r0, iv p1] [(.ref r0), (.ref r0)])) rfl rfl (hb hby d4_24)
        have pre40 : ∀ t, Steps p.tables e below (T39.setTop (mkF m 29 #[rv r0, iv p1] [(.int (0 : Int32)), (.ref r0)])) t → Steps p.tables e below (s₁.setTop (entryFrame m #[(.ref r0), (.int p1)] 2)) t := by
          intro t kt
          refine pre38 _ ?_
          show Steps p.tables e below (T33.setTop (mkF m 24 #[rv r0, iv p1] [(.ref r0), (.ref r0)])) _
          refine st39 _ ?_
          show Steps p.tables e below (T39.setTop (mkF m 27 #[rv r0, iv p1] [(.int (1 : Int32)), (.ref r0)])) _
          refine XS.iconst X39.here hx rfl (hb hby d4_27) ?_
          refine XS.isub X39.here hx rfl (hb hby d4_28) rfl ?_
          show Steps p.tables e below (T39.setTop (mkF m 29 #[rv r0, iv p1] [(.int ((1 : Int32) - (1 : Int32))), (.ref r0)])) _
          rw [show ((1 : Int32) - (1 : Int32)) = (0 : Int32) from (by decide)]
          exact kt
        obtain ⟨T41, h41, X41, e41, W41, st41⟩ := putF X39 hx hZ hown (host := "") (Or.inl (hw _ (List.mem_of_getElem? (i := 18) rfl))) Via.refl e39 Fw27 ((E_r0.wr W13).wr W27) (Or.inl (hw _ (List.mem_of_getElem? (i := 19) rfl))) (hw _ (List.mem_of_getElem? (i := 2) rfl)) (ty := .int) (by decide) rfl rfl (g := (mkF m 29 #[rv r0, iv p1] [(.int (0 : Int32)), (.ref r0)])) rfl rfl (hb hby d4_29)
        have Fw41 : Fld Z h41 r0 "com/example/bytewright/bytewright/grid/ObjectStarts" "count" "I" (.int (0 : Int32)) := Fw27.same W41
        have K41 : Keep h0 h41 [r0, ab] := K27.wr W41 (Or.inl (List.mem_of_getElem? (i := 0) rfl))
        have N41 := Fr.snoc X41 N27 g_r0
        have pre42 : ∀ t, Steps p.tables e below (T41.setTop (mkF m 1 #[rv r0, iv p1] [(.ref r0)])) t → Steps p.tables e below (s₁.setTop (entryFrame m #[(.ref r0), (.int p1)] 2)) t := by
          intro t kt
          refine pre40 _ ?_
          show Steps p.tables e below (T39.setTop (mkF m 29 #[rv r0, iv p1] [(.int (0 : Int32)), (.ref r0)])) _
          refine st41 _ ?_
          show Steps p.tables e below (T41.setTop (mkF m 32 #[rv r0, iv p1] [])) _
          refine XS.goto X41.here hx rfl (pc0 := 32) (pc' := 0) rfl (hb hby d4_32) (by decide) (by decide) ?_
          refine XS.aloadN X41.here hx rfl (hb hby d4_0) rfl rfl ?_
          exact kt
        obtain ⟨T43, X43, e43, st43⟩ := getF X41 hx hZ hown (host := "") (Or.inl (hw _ (List.mem_of_getElem? (i := 18) rfl))) Via.refl e41 Fw41 (g := (mkF m 1 #[rv r0, iv p1] [(.ref r0)])) rfl rfl (hb hby d4_1)
        have pre44 : ∀ t, Steps p.tables e below (T43.setTop (mkF m 35 #[rv r0, iv p1] [])) t → Steps p.tables e below (s₁.setTop (entryFrame m #[(.ref r0), (.int p1)] 2)) t := by
          intro t kt
          refine pre42 _ ?_
          show Steps p.tables e below (T41.setTop (mkF m 1 #[rv r0, iv p1] [(.ref r0)])) _
          refine st43 _ ?_
          show Steps p.tables e below (T43.setTop (mkF m 4 #[rv r0, iv p1] [(.int (0 : Int32))])) _
          refine XS.ifYes X43.here hx rfl (pc0 := 4) (pc' := 35) rfl (hb hby d4_4) rfl ((if0 _ _).trans (flt (by decide)).2.2.2) (by decide) (by decide) ?_
          exact kt
        obtain ⟨fs, hr, hrun, hended, hW, hsame⟩ := X43.leave (v := none) (fun _ => rfl)
        refine ⟨_, _, pre44 _ ?_, hrun, hended, _, _, rfl, ?_, ⟨_, rfl⟩, hW, hsame.mono (by decide) (by decide)⟩
        · show Steps p.tables e below (T43.setTop (mkF m 35 #[rv r0, iv p1] [])) _
          exact X43.returnOut hx Bd.returns (hb hby d4_35) hr
        · show Q4c3 Z r0 p1 ab kc x0 x1 x2 x3 h0 n0 _ T43.heap _
          rw [e43]
          exact ⟨_, rfl, N41, K41, (((F_offsets_r0.other W13 (Or.inr (slot_ne (Or.inl (hw _ (List.mem_of_getElem? (i := 12) rfl))) (Or.inl (hw _ (List.mem_of_getElem? (i := 19) rfl))) (by decide) (t := (.array .int)) (t' := .int) (by decide) (by decide)))).other W27 (Or.inr (slot_ne (Or.inl (hw _ (List.mem_of_getElem? (i := 12) rfl))) (Or.inl (hw _ (List.mem_of_getElem? (i := 19) rfl))) (by decide) (t := (.array .int)) (t' := .int) (by decide) (by decide)))).other W41 (Or.inr (slot_ne (Or.inl (hw _ (List.mem_of_getElem? (i := 12) rfl))) (Or.inl (hw _ (List.mem_of_getElem? (i := 19) rfl))) (by decide) (t := (.array .int)) (t' := .int) (by decide) (by decide)))), Fw41, (((V_ab.other W13 (Ne.symm hne)).other W27 (Ne.symm hne)).other W41 (Ne.symm hne)), Or.inr (Or.inr (Or.inr (⟨hc19, hc19_22, hc19_36, rfl⟩)))⟩
theorem pn1 : plainName "java/util/Arrays" = true := by first | (simp [plainName, overriddenIn]; done) | decide +kernel
theorem d7_0 : decode jdk_65_method_30_code 0 = .ok (.iload_n 1, 1) := by decide +kernel
theorem d7_1 : decode jdk_65_method_30_code 1 = .ok (.iload_n 2, 1) := by decide +kernel
theorem d7_2 : decode jdk_65_method_30_code 2 = .ok (.if_icmp .le 44, 3) := by decide +kernel
theorem d7_46 : decode jdk_65_method_30_code 46 = .ok (.iload_n 1, 1) := by decide +kernel
theorem d7_47 : decode jdk_65_method_30_code 47 = .ok (.ifCond .ge 12, 3) := by decide +kernel
theorem d7_59 : decode jdk_65_method_30_code 59 = .ok (.iload_n 2, 1) := by decide +kernel
theorem d7_60 : decode jdk_65_method_30_code 60 = .ok (.iload_n 0, 1) := by decide +kernel
theorem d7_61 : decode jdk_65_method_30_code 61 = .ok (.if_icmp .le 12, 3) := by decide +kernel
theorem d7_73 : decode jdk_65_method_30_code 73 = .ok (.return_, 1) := by decide +kernel
theorem ef_7c0 (m : MethodId) (x0 : Int32) (x1 : Int32) (x2 : Int32) : entryFrame m #[(.int x0), (.int x1), (.int x2)] 3 = mkF m 0 #[.val (.int x0), .val (.int x1), .val (.int x2)] [] := by first | (simp [entryFrame, mkF, argsToLocals, Value.category]; done) | rfl
def Q7c0 (Z : State)  (h0 : Heap) (n0 : Nat) (v : Option Value) (h : Heap) (L : List Loc) : Prop := v = none ∧ Fr n0 L ∧ h = h0
set_option maxRecDepth 65536 in
set_option maxHeartbeats 40000000 in
theorem rm7c0 (l : Launch) (Z : State) (a0 : Array Value) (hw : ∀ d ∈ tables_1, d.before a0 Z = true) (ws : List Jvm.Cond)  (h0 : Heap) (n0 : Nat) (Z0 : n0 ≤ h0.size) :
    MetFree l (⟨"java/util/Arrays", "rangeCheck", "(III)V"⟩ : MethodName) (head1 (Jvm.Cond.code (⟨"java/util/Arrays", "rangeCheck", "(III)V"⟩ : MethodName) jdk_65_method_30_code 3 none :: ws) ({ frames := 0, cells := 0, slots := 0, locals := 0 } : Room)) (fun a U => a = #[(.int (16 : Int32)), (.int (0 : Int32)), (.int (0 : Int32))] ∧ Z.Warmed39 U.vm ∧ U.heap = h0) (fun _ _ _ _ _ => True) (fun _ U o U' => ∃ v L, o = .returned v ∧ Q7c0 Z  h0 n0 v U'.heap L ∧ FrameEnd U o U' L ({ frames := 0, cells := 0, slots := 0, locals := 0 } : Room).cells ({ frames := 0, cells := 0, slots := 0, locals := 0 } : Room).slots) := by
  refine MetFree.of_bodySF (plainFor_of_name pn1) hisR ?_
  intro p e s m args below meth c s₁ Bd hml0 hP hK
  obtain ⟨rfl, hZ, hh⟩ := hP
  have hx := Bd.exec
  have hby := Bd.bytes
  have hml : c.maxLocals = 3 := hml0
  have hown : s.vm.findClass "java/util/Arrays" = some m.cls := findClass_of_methodNamed Bd.named
  have hnm := (name_of_methodNamed Bd.named Bd.method).1
  have X0 : Stand p l e ({ frames := 0, cells := 0, slots := 0, locals := 0 } : Room) s m #[(.int (16 : Int32)), (.int (0 : Int32)), (.int (0 : Int32))] below meth c s₁ [] 0 0 := Stand.of_body Bd
  have e0 : s₁.heap = h0 := by rw [← hh, Bd.state]; rfl
  have N0 := Fr.nil n0
  have pre0 : ∀ t, Steps p.tables e below (s₁.setTop (mkF m 0 #[iv (16 : Int32), iv (0 : Int32), iv (0 : Int32)] [])) t → Steps p.tables e below (s₁.setTop (entryFrame m #[(.int (16 : Int32)), (.int (0 : Int32)), (.int (0 : Int32))] 3)) t := fun t k => castTop (ef_7c0 m (16 : Int32) (0 : Int32) (0 : Int32)) k
  have pre1 : ∀ t, Steps p.tables e below (s₁.setTop (mkF m 73 #[iv (16 : Int32), iv (0 : Int32), iv (0 : Int32)] [])) t → Steps p.tables e below (s₁.setTop (entryFrame m #[(.int (16 : Int32)), (.int (0 : Int32)), (.int (0 : Int32))] 3)) t := by
    intro t kt
    refine pre0 _ ?_
    show Steps p.tables e below (s₁.setTop (mkF m 0 #[iv (16 : Int32), iv (0 : Int32), iv (0 : Int32)] [])) _
    refine XS.iloadN X0.here hx rfl (hb hby d7_0) rfl ?_
    refine XS.iloadN X0.here hx rfl (hb hby d7_1) rfl ?_
    refine XS.icmpYes X0.here hx rfl (pc0 := 2) (pc' := 46) rfl (hb hby d7_2) rfl (flt (by decide)).2.2.2 (by decide) (by decide) ?_
    refine XS.iloadN X0.here hx rfl (hb hby d7_46) rfl ?_
    refine XS.ifYes X0.here hx rfl (pc0 := 47) (pc' := 59) rfl (hb hby d7_47) rfl ((if0 _ _).trans (flt (by decide)).2.1) (by decide) (by decide) ?_
    refine XS.iloadN X0.here hx rfl (hb hby d7_59) rfl ?_
    refine XS.iloadN X0.here hx rfl (hb hby d7_60) rfl ?_
    refine XS.icmpYes X0.here hx rfl (pc0 := 61) (pc' := 73) rfl (hb hby d7_61) rfl (flt (by decide)).2.2.2 (by decide) (by decide) ?_
    exact kt
  obtain ⟨fs, hr, hrun, hended, hW, hsame⟩ := X0.leave (v := none) (fun _ => rfl)
  refine ⟨_, _, pre1 _ ?_, hrun, hended, _, _, rfl, ?_, ⟨_, rfl⟩, hW, hsame.mono (by decide) (by decide)⟩
  · show Steps p.tables e below (s₁.setTop (mkF m 73 #[iv (16 : Int32), iv (0 : Int32), iv (0 : Int32)] [])) _
    exact X0.returnOut hx Bd.returns (hb hby d7_73) hr
  · show Q7c0 Z  h0 n0 _ s₁.heap _
    rw [e0]
    exact ⟨rfl, N0, rfl⟩
def own_bs0 (p3 : Int32) (x0 : Int32) (x1 : Int32) (x2 : Int32) (x3 : Int32) : Int32 := (-1 : Int32)
theorem d8_0 : decode jdk_65_method_59_code 0 = .ok (.iload_n 1, 1) := by decide +kernel
theorem d8_1 : decode jdk_65_method_59_code 1 = .ok (.istore 4, 2) := by decide +kernel
theorem d8_3 : decode jdk_65_method_59_code 3 = .ok (.iload_n 2, 1) := by decide +kernel
theorem d8_4 : decode jdk_65_method_59_code 4 = .ok (.iconst 1, 1) := by decide +kernel
theorem d8_5 : decode jdk_65_method_59_code 5 = .ok (.isub, 1) := by decide +kernel
theorem d8_6 : decode jdk_65_method_59_code 6 = .ok (.istore 5, 2) := by decide +kernel
theorem d8_8 : decode jdk_65_method_59_code 8 = .ok (.iload 4, 2) := by decide +kernel
theorem d8_10 : decode jdk_65_method_59_code 10 = .ok (.iload 5, 2) := by decide +kernel
theorem d8_12 : decode jdk_65_method_59_code 12 = .ok (.if_icmp .gt 54, 3) := by decide +kernel
theorem d8_66 : decode jdk_65_method_59_code 66 = .ok (.iload 4, 2) := by decide +kernel
theorem d8_68 : decode jdk_65_method_59_code 68 = .ok (.iconst 1, 1) := by decide +kernel
theorem d8_69 : decode jdk_65_method_59_code 69 = .ok (.iadd, 1) := by decide +kernel
theorem d8_70 : decode jdk_65_method_59_code 70 = .ok (.ineg, 1) := by decide +kernel
theorem d8_71 : decode jdk_65_method_59_code 71 = .ok (.ireturn, 1) := by decide +kernel
theorem ef_8c0 (m : MethodId) (x0 : Addr) (x1 : Int32) (x2 : Int32) (x3 : Int32) : entryFrame m #[(.ref x0), (.int x1), (.int x2), (.int x3)] 8 = mkF m 0 #[.val (.ref x0), .val (.int x1), .val (.int x2), .val (.int x3), .unset, .unset, .unset, .unset] [] := by first | (simp [entryFrame, mkF, argsToLocals, Value.category]; done) | rfl
def Q8c0 (Z : State) (r0 : Addr) (p3 : Int32) (kc : ClassId) (x0 : Int32) (x1 : Int32) (x2 : Int32) (x3 : Int32) (h0 : Heap) (n0 : Nat) (v : Option Value) (h : Heap) (L : List Loc) : Prop := v = some (.int (own_bs0 p3 x0 x1 x2 x3)) ∧ Fr n0 L ∧ h = h0
set_option maxRecDepth 65536 in
set_option maxHeartbeats 40000000 in
theorem rm8c0 (l : Launch) (Z : State) (a0 : Array Value) (hw : ∀ d ∈ tables_1, d.before a0 Z = true) (ws : List Jvm.Cond) (r0 : Addr) (p3 : Int32) (kc : ClassId) (x0 : Int32) (x1 : Int32) (x2 : Int32) (x3 : Int32) (h0 : Heap) (n0 : Nat) (Z0 : n0 ≤ h0.size) (V_r0 : Arv Z h0 r0 kc .int (16 : Int32) [(.int x0), (.int x1), (.int x2), (.int x3), (.int (0 : Int32)), (.int (0 : Int32)), (.int (0 : Int32)), (.int (0 : Int32)), (.int (0 : Int32)), (.int (0 : Int32)), (.int (0 : Int32)), (.int (0 : Int32)), (.int (0 : Int32)), (.int (0 : Int32)), (.int (0 : Int32)), (.int (0 : Int32))] (.int (0 : Int32))) :
    MetFree l (⟨"java/util/Arrays", "binarySearch0", "([IIII)I"⟩ : MethodName) (head1 (Jvm.Cond.code (⟨"java/util/Arrays", "binarySearch0", "([IIII)I"⟩ : MethodName) jdk_65_method_59_code 8 (some .int) :: ws) ({ frames := 0, cells := 0, slots := 0, locals := 0 } : Room)) (fun a U => a = #[(.ref r0), (.int (0 : Int32)), (.int (0 : Int32)), (.int p3)] ∧ Z.Warmed39 U.vm ∧ U.heap = h0) (fun _ _ _ _ _ => True) (fun _ U o U' => ∃ v L, o = .returned v ∧ Q8c0 Z r0 p3 kc x0 x1 x2 x3 h0 n0 v U'.heap L ∧ FrameEnd U o U' L ({ frames := 0, cells := 0, slots := 0, locals := 0 } : Room).cells ({ frames := 0, cells := 0, slots := 0, locals := 0 } : Room).slots) := by
  refine MetFree.of_bodySF (plainFor_of_name pn1) hisR ?_
  intro p e s m args below meth c s₁ Bd hml0 hP hK
  obtain ⟨rfl, hZ, hh⟩ := hP
  have hx := Bd.exec
  have hby := Bd.bytes
  have hml : c.maxLocals = 8 := hml0
  have hown : s.vm.findClass "java/util/Arrays" = some m.cls := findClass_of_methodNamed Bd.named
  have hnm := (name_of_methodNamed Bd.named Bd.method).1
  have X0 : Stand p l e ({ frames := 0, cells := 0, slots := 0, locals := 0 } : Room) s m #[(.ref r0), (.int (0 : Int32)), (.int (0 : Int32)), (.int p3)] below meth c s₁ [] 0 0 := Stand.of_body Bd
  have e0 : s₁.heap = h0 := by rw [← hh, Bd.state]; rfl
  have N0 := Fr.nil n0
  have pre0 : ∀ t, Steps p.tables e below (s₁.setTop (mkF m 0 #[rv r0, iv (0 : Int32), iv (0 : Int32), iv p3, .unset, .unset, .unset, .unset] [])) t → Steps p.tables e below (s₁.setTop (entryFrame m #[(.ref r0), (.int (0 : Int32)), (.int (0 : Int32)), (.int p3)] 8)) t := fun t k => castTop (ef_8c0 m r0 (0 : Int32) (0 : Int32) p3) k
  have pre1 : ∀ t, Steps p.tables e below (s₁.setTop (mkF m 71 #[rv r0, iv (0 : Int32), iv (0 : Int32), iv p3, iv (0 : Int32), iv (-1 : Int32), .unset, .unset] [(.int (-1 : Int32))])) t → Steps p.tables e below (s₁.setTop (entryFrame m #[(.ref r0), (.int (0 : Int32)), (.int (0 : Int32)), (.int p3)] 8)) t := by
    intro t kt
    refine pre0 _ ?_
    show Steps p.tables e below (s₁.setTop (mkF m 0 #[rv r0, iv (0 : Int32), iv (0 : Int32), iv p3, .unset, .unset, .unset, .unset] [])) _
    refine XS.iloadN X0.here hx rfl (hb hby d8_0) rfl ?_
    refine XS.istore X0.here hx rfl (hb hby d8_1) rfl (l' := #[rv r0, iv (0 : Int32), iv (0 : Int32), iv p3, iv (0 : Int32), .unset, .unset, .unset]) rfl ?_
    refine XS.iloadN X0.here hx rfl (hb hby d8_3) rfl ?_
    refine XS.iconst X0.here hx rfl (hb hby d8_4) ?_
    refine XS.isub X0.here hx rfl (hb hby d8_5) rfl ?_
    show Steps p.tables e below (s₁.setTop (mkF m 6 #[rv r0, iv (0 : Int32), iv (0 : Int32), iv p3, iv (0 : Int32), .unset, .unset, .unset] [(.int ((0 : Int32) - (1 : Int32)))])) _
    rw [show ((0 : Int32) - (1 : Int32)) = (-1 : Int32) from (by decide)]
    show Steps p.tables e below (s₁.setTop (mkF m 6 #[rv r0, iv (0 : Int32), iv (0 : Int32), iv p3, iv (0 : Int32), .unset, .unset, .unset] [(.int (-1 : Int32))])) _
    refine XS.istore X0.here hx rfl (hb hby d8_6) rfl (l' := #[rv r0, iv (0 : Int32), iv (0 : Int32), iv p3, iv (0 : Int32), iv (-1 : Int32), .unset, .unset]) rfl ?_
    refine XS.iload X0.here hx rfl (hb hby d8_8) rfl ?_
    refine XS.iload X0.here hx rfl (hb hby d8_10) rfl ?_
    refine XS.icmpYes X0.here hx rfl (pc0 := 12) (pc' := 66) rfl (hb hby d8_12) rfl (tlt (by decide)).2.2.1 (by decide) (by decide) ?_
    refine XS.iload X0.here hx rfl (hb hby d8_66) rfl ?_
    refine XS.iconst X0.here hx rfl (hb hby d8_68) ?_
    refine XS.iadd X0.here hx rfl (hb hby d8_69) rfl ?_
    show Steps p.tables e below (s₁.setTop (mkF m 70 #[rv r0, iv (0 : Int32), iv (0 : Int32), iv p3, iv (0 : Int32), iv (-1 : Int32), .unset, .unset] [(.int ((0 : Int32) + (1 : Int32)))])) _
    rw [show ((0 : Int32) + (1 : Int32)) = (1 : Int32) from (by decide)]
    show Steps p.tables e below (s₁.setTop (mkF m 70 #[rv r0, iv (0 : Int32), iv (0 : Int32), iv p3, iv (0 : Int32), iv (-1 : Int32), .unset, .unset] [(.int (1 : Int32))])) _
    refine XS.ineg X0.here hx rfl (hb hby d8_70) rfl ?_
    show Steps p.tables e below (s₁.setTop (mkF m 71 #[rv r0, iv (0 : Int32), iv (0 : Int32), iv p3, iv (0 : Int32), iv (-1 : Int32), .unset, .unset] [(.int (-(1 : Int32)))])) _
    rw [show (-(1 : Int32)) = (-1 : Int32) from (by decide)]
    exact kt
  obtain ⟨fs, hr, hrun, hended, hW, hsame⟩ := X0.leave (v := some (.int (-1 : Int32))) (fun h => by rw [Bd.returns] at h; cases h)
  refine ⟨_, _, pre1 _ ?_, hrun, hended, _, _, rfl, ?_, ⟨_, rfl⟩, hW, hsame.mono (by decide) (by decide)⟩
  · show Steps p.tables e below (s₁.setTop (mkF m 71 #[rv r0, iv (0 : Int32), iv (0 : Int32), iv p3, iv (0 : Int32), iv (-1 : Int32), .unset, .unset] [(.int (-1 : Int32))])) _
    exact retI X0 hx Bd.returns (hb hby d8_71) hr
  · show Q8c0 Z r0 p3 kc x0 x1 x2 x3 h0 n0 _ s₁.heap _
    rw [e0]
    exact ⟨congrArg (fun z => some (Value.int z)) rfl.symm, N0, rfl⟩
theorem d6_0 : decode jdk_65_method_58_code 0 = .ok (.aload_n 0, 1) := by decide +kernel
theorem d6_1 : decode jdk_65_method_58_code 1 = .ok (.arraylength, 1) := by decide +kernel
theorem d6_2 : decode jdk_65_method_58_code 2 = .ok (.iload_n 1, 1) := by decide +kernel
theorem d6_3 : decode jdk_65_method_58_code 3 = .ok (.iload_n 2, 1) := by decide +kernel
theorem pd2 : parseMethodDescriptor "(III)V" = some ⟨[.int, .int, .int], none⟩ := by decide +kernel
theorem d6_4 : decode jdk_65_method_58_code 4 = .ok (.invokestatic 13, 3) := by decide +kernel
theorem d6_7 : decode jdk_65_method_58_code 7 = .ok (.aload_n 0, 1) := by decide +kernel
theorem d6_8 : decode jdk_65_method_58_code 8 = .ok (.iload_n 1, 1) := by decide +kernel
theorem d6_9 : decode jdk_65_method_58_code 9 = .ok (.iload_n 2, 1) := by decide +kernel
theorem d6_10 : decode jdk_65_method_58_code 10 = .ok (.iload_n 3, 1) := by decide +kernel
theorem pd3 : parseMethodDescriptor "([IIII)I" = some ⟨[(.array .int), .int, .int, .int], some .int⟩ := by decide +kernel
theorem d6_11 : decode jdk_65_method_58_code 11 = .ok (.invokestatic 209, 3) := by decide +kernel
theorem d6_14 : decode jdk_65_method_58_code 14 = .ok (.ireturn, 1) := by decide +kernel
theorem ef_6c0 (m : MethodId) (x0 : Addr) (x1 : Int32) (x2 : Int32) (x3 : Int32) : entryFrame m #[(.ref x0), (.int x1), (.int x2), (.int x3)] 4 = mkF m 0 #[.val (.ref x0), .val (.int x1), .val (.int x2), .val (.int x3)] [] := by first | (simp [entryFrame, mkF, argsToLocals, Value.category]; done) | rfl
def Q6c0 (Z : State) (r0 : Addr) (p3 : Int32) (kc : ClassId) (x0 : Int32) (x1 : Int32) (x2 : Int32) (x3 : Int32) (h0 : Heap) (n0 : Nat) (v : Option Value) (h : Heap) (L : List Loc) : Prop := v = some (.int (own_bs0 p3 x0 x1 x2 x3)) ∧ Fr n0 L ∧ h = h0
set_option maxRecDepth 65536 in
set_option maxHeartbeats 40000000 in
theorem rm6c0 (l : Launch) (Z : State) (a0 : Array Value) (hw : ∀ d ∈ tables_1, d.before a0 Z = true) (ws : List Jvm.Cond) (r0 : Addr) (p3 : Int32) (kc : ClassId) (x0 : Int32) (x1 : Int32) (x2 : Int32) (x3 : Int32) (h0 : Heap) (n0 : Nat) (Z0 : n0 ≤ h0.size) (V_r0 : Arv Z h0 r0 kc .int (16 : Int32) [(.int x0), (.int x1), (.int x2), (.int x3), (.int (0 : Int32)), (.int (0 : Int32)), (.int (0 : Int32)), (.int (0 : Int32)), (.int (0 : Int32)), (.int (0 : Int32)), (.int (0 : Int32)), (.int (0 : Int32)), (.int (0 : Int32)), (.int (0 : Int32)), (.int (0 : Int32)), (.int (0 : Int32))] (.int (0 : Int32))) :
    MetFree l (⟨"java/util/Arrays", "binarySearch", "([IIII)I"⟩ : MethodName) (head1 (Jvm.Cond.code (⟨"java/util/Arrays", "binarySearch", "([IIII)I"⟩ : MethodName) jdk_65_method_58_code 4 (some .int) :: ws) ({ frames := 1, cells := 0, slots := 0, locals := 19 } : Room)) (fun a U => a = #[(.ref r0), (.int (0 : Int32)), (.int (0 : Int32)), (.int p3)] ∧ Z.Warmed39 U.vm ∧ U.heap = h0) (fun _ _ _ _ _ => True) (fun _ U o U' => ∃ v L, o = .returned v ∧ Q6c0 Z r0 p3 kc x0 x1 x2 x3 h0 n0 v U'.heap L ∧ FrameEnd U o U' L ({ frames := 1, cells := 0, slots := 0, locals := 19 } : Room).cells ({ frames := 1, cells := 0, slots := 0, locals := 19 } : Room).slots) := by
  refine MetFree.of_bodySF (plainFor_of_name pn1) hisR ?_
  intro p e s m args below meth c s₁ Bd hml0 hP hK
  obtain ⟨rfl, hZ, hh⟩ := hP
  have hx := Bd.exec
  have hby := Bd.bytes
  have hml : c.maxLocals = 4 := hml0
  have hown : s.vm.findClass "java/util/Arrays" = some m.cls := findClass_of_methodNamed Bd.named
  have hnm := (name_of_methodNamed Bd.named Bd.method).1
  have X0 : Stand p l e ({ frames := 1, cells := 0, slots := 0, locals := 19 } : Room) s m #[(.ref r0), (.int (0 : Int32)), (.int (0 : Int32)), (.int p3)] below meth c s₁ [] 0 0 := Stand.of_body Bd
  have e0 : s₁.heap = h0 := by rw [← hh, Bd.state]; rfl
  have N0 := Fr.nil n0
  have pre0 : ∀ t, Steps p.tables e below (s₁.setTop (mkF m 0 #[rv r0, iv (0 : Int32), iv (0 : Int32), iv p3] [])) t → Steps p.tables e below (s₁.setTop (entryFrame m #[(.ref r0), (.int (0 : Int32)), (.int (0 : Int32)), (.int p3)] 4)) t := fun t k => castTop (ef_6c0 m r0 (0 : Int32) (0 : Int32) p3) k
  obtain ⟨cl1, Ar1, -, S1, M1, -, -⟩ := id V_r0
  have pre2 : ∀ t, Steps p.tables e below (s₁.setTop (mkF m 4 #[rv r0, iv (0 : Int32), iv (0 : Int32), iv p3] [(.int (0 : Int32)), (.int (0 : Int32)), (.int (16 : Int32))])) t → Steps p.tables e below (s₁.setTop (entryFrame m #[(.ref r0), (.int (0 : Int32)), (.int (0 : Int32)), (.int p3)] 4)) t := by
    intro t kt
    refine pre0 _ ?_
    show Steps p.tables e below (s₁.setTop (mkF m 0 #[rv r0, iv (0 : Int32), iv (0 : Int32), iv p3] [])) _
    refine XS.aloadN X0.here hx rfl (hb hby d6_0) rfl rfl ?_
    refine X0.arraylength hx (by rw [e0]; exact Ar1.1) (State.isArrayOf_alike hZ.alike Ar1.2.1) (g := (mkF m 1 #[rv r0, iv (0 : Int32), iv (0 : Int32), iv p3] [(.ref r0)])) rfl rfl (hb hby d6_1) _ ?_
    rw [len_of S1 M1]
    show Steps p.tables e below (s₁.setTop (mkF m 2 #[rv r0, iv (0 : Int32), iv (0 : Int32), iv p3] [(.int (16 : Int32))])) _
    refine XS.iloadN X0.here hx rfl (hb hby d6_2) rfl ?_
    refine XS.iloadN X0.here hx rfl (hb hby d6_3) rfl ?_
    exact kt
  obtain ⟨_, _, ⟨T3, L3, k3, n3⟩, -, X3, ⟨Lc3, hQ3, l3, y3, z3⟩, st3⟩ := Jvm.LawKit.callS X0 hx (y := (⟨"java/util/Arrays", "rangeCheck", "(III)V"⟩ : MethodName)) hown (mvT hZ (hw _ (List.mem_of_getElem? (i := 34) rfl))) (mvT hZ (hw _ (List.mem_of_getElem? (i := 35) rfl))) (mvT hZ (hw _ (List.mem_of_getElem? (i := 32) rfl))) (mvT hZ (hw _ (List.mem_of_getElem? (i := 36) rfl))) (by decide) (backOf (W := 0) (rm7c0 l Z a0 hw []  h0 n0 (Nat.le_trans Z0 (Keep.refl h0 []).1)) hZ (hw _ (List.mem_of_getElem? (i := 36) rfl)) (hw _ (List.mem_of_getElem? (i := 32) rfl)) (by decide) (by decide)) (g := (mkF m 4 #[rv r0, iv (0 : Int32), iv (0 : Int32), iv p3] [(.int (0 : Int32)), (.int (0 : Int32)), (.int (16 : Int32))])) rfl (by rw [hml]; rfl) (argsL := [(.int (16 : Int32)), (.int (0 : Int32)), (.int (0 : Int32))]) (rest := []) (lenOf pd2 rfl) rfl (by show 2 * 0 + _ ≤ _; exact Nat.le_of_eq rfl) (hb hby d6_4) (fun _ _ => ⟨rfl, e0, (by decide : 0 + 0 ≤ _), (by decide : 0 + 0 ≤ _)⟩)
  dsimp only [Pt.U, Pt.locs, Pt.cells, Pt.slots] at X3 l3 y3 z3 st3 hQ3
  subst l3 y3 z3
  obtain ⟨rfl, N3q, hh3⟩ := hQ3
  have N3 := Fr.app N0 N3q
  have pre4 : ∀ t, Steps p.tables e below (T3.setTop (mkF m 11 #[rv r0, iv (0 : Int32), iv (0 : Int32), iv p3] [(.int p3), (.int (0 : Int32)), (.int (0 : Int32)), (.ref r0)])) t → Steps p.tables e below (s₁.setTop (entryFrame m #[(.ref r0), (.int (0 : Int32)), (.int (0 : Int32)), (.int p3)] 4)) t := by
    intro t kt
    refine pre2 _ ?_
    show Steps p.tables e below (s₁.setTop (mkF m 4 #[rv r0, iv (0 : Int32), iv (0 : Int32), iv p3] [(.int (0 : Int32)), (.int (0 : Int32)), (.int (16 : Int32))])) _
    refine st3 _ ?_
    show Steps p.tables e below (T3.setTop (mkF m 7 #[rv r0, iv (0 : Int32), iv (0 : Int32), iv p3] [])) _
    refine XS.aloadN X3.here hx rfl (hb hby d6_7) rfl rfl ?_
    refine XS.iloadN X3.here hx rfl (hb hby d6_8) rfl ?_
    refine XS.iloadN X3.here hx rfl (hb hby d6_9) rfl ?_
    refine XS.iloadN X3.here hx rfl (hb hby d6_10) rfl ?_
    exact kt
  obtain ⟨_, _, ⟨T5, L5, k5, n5⟩, -, X5, ⟨Lc5, hQ5, l5, y5, z5⟩, st5⟩ := Jvm.LawKit.callS X3 hx (y := (⟨"java/util/Arrays", "binarySearch0", "([IIII)I"⟩ : MethodName)) hown (mvT hZ (hw _ (List.mem_of_getElem? (i := 37) rfl))) (mvT hZ (hw _ (List.mem_of_getElem? (i := 38) rfl))) (mvT hZ (hw _ (List.mem_of_getElem? (i := 32) rfl))) (mvT hZ (hw _ (List.mem_of_getElem? (i := 39) rfl))) (by decide) (backOf (W := 0) (rm8c0 l Z a0 hw [] r0 p3 kc x0 x1 x2 x3 h0 n0 (Nat.le_trans Z0 (Keep.refl h0 []).1) V_r0) hZ (hw _ (List.mem_of_getElem? (i := 39) rfl)) (hw _ (List.mem_of_getElem? (i := 32) rfl)) (by decide) (by decide)) (g := (mkF m 11 #[rv r0, iv (0 : Int32), iv (0 : Int32), iv p3] [(.int p3), (.int (0 : Int32)), (.int (0 : Int32)), (.ref r0)])) rfl (by rw [hml]; rfl) (argsL := [(.ref r0), (.int (0 : Int32)), (.int (0 : Int32)), (.int p3)]) (rest := []) (lenOf pd3 rfl) rfl (by show 2 * 0 + _ ≤ _; exact Nat.le_of_eq rfl) (hb hby d6_11) (fun _ _ => ⟨rfl, hh3, (by decide : 0 + 0 ≤ _), (by decide : 0 + 0 ≤ _)⟩)
  dsimp only [Pt.U, Pt.locs, Pt.cells, Pt.slots] at X5 l5 y5 z5 st5 hQ5
  subst l5 y5 z5
  obtain ⟨rfl, N5q, hh5⟩ := hQ5
  have N5 := Fr.app N3 N5q
  have pre6 : ∀ t, Steps p.tables e below (T5.setTop (mkF m 14 #[rv r0, iv (0 : Int32), iv (0 : Int32), iv p3] [(.int (own_bs0 p3 x0 x1 x2 x3))])) t → Steps p.tables e below (s₁.setTop (entryFrame m #[(.ref r0), (.int (0 : Int32)), (.int (0 : Int32)), (.int p3)] 4)) t := by
    intro t kt
    refine pre4 _ ?_
    show Steps p.tables e below (T3.setTop (mkF m 11 #[rv r0, iv (0 : Int32), iv (0 : Int32), iv p3] [(.int p3), (.int (0 : Int32)), (.int (0 : Int32)), (.ref r0)])) _
    refine st5 _ ?_
    exact kt
  obtain ⟨fs, hr, hrun, hended, hW, hsame⟩ := X5.leave (v := some (.int (own_bs0 p3 x0 x1 x2 x3))) (fun h => by rw [Bd.returns] at h; cases h)
  refine ⟨_, _, pre6 _ ?_, hrun, hended, _, _, rfl, ?_, ⟨_, rfl⟩, hW, hsame.mono (by decide) (by decide)⟩
  · show Steps p.tables e below (T5.setTop (mkF m 14 #[rv r0, iv (0 : Int32), iv (0 : Int32), iv p3] [(.int (own_bs0 p3 x0 x1 x2 x3))])) _
    exact retI X5 hx Bd.returns (hb hby d6_14) hr
  · show Q6c0 Z r0 p3 kc x0 x1 x2 x3 h0 n0 _ T5.heap _
    rw [hh5]
    exact ⟨rfl, N5, rfl⟩
def own_ix0 (key : Int32) (x0 : Int32) (x1 : Int32) (x2 : Int32) (x3 : Int32) : Int32 := if (own_bs0 key x0 x1 x2 x3) < (0 : Int32) then (-1) else (own_bs0 key x0 x1 x2 x3)
theorem d5_0 : decode prog_53_method_5_code 0 = .ok (.iload_n 1, 1) := by decide +kernel
theorem d5_1 : decode prog_53_method_5_code 1 = .ok (.i2l, 1) := by decide +kernel
theorem d5_2 : decode prog_53_method_5_code 2 = .ok (.iload_n 2, 1) := by decide +kernel
theorem d5_3 : decode prog_53_method_5_code 3 = .ok (.i2l, 1) := by decide +kernel
theorem d5_4 : decode prog_53_method_5_code 4 = .ok (.lsub, 1) := by decide +kernel
theorem d5_5 : decode prog_53_method_5_code 5 = .ok (.lstore_n 3, 1) := by decide +kernel
theorem d5_6 : decode prog_53_method_5_code 6 = .ok (.lload_n 3, 1) := by decide +kernel
theorem d5_7 : decode prog_53_method_5_code 7 = .ok (.lconst 0, 1) := by decide +kernel
theorem d5_8 : decode prog_53_method_5_code 8 = .ok (.lcmp, 1) := by decide +kernel
theorem d5_9 : decode prog_53_method_5_code 9 = .ok (.ifCond .lt 10, 3) := by decide +kernel
theorem d5_12 : decode prog_53_method_5_code 12 = .ok (.lload_n 3, 1) := by decide +kernel
theorem d5_13 : decode prog_53_method_5_code 13 = .ok (.iload_n 1, 1) := by decide +kernel
theorem d5_14 : decode prog_53_method_5_code 14 = .ok (.i2l, 1) := by decide +kernel
theorem d5_15 : decode prog_53_method_5_code 15 = .ok (.lcmp, 1) := by decide +kernel
theorem d5_16 : decode prog_53_method_5_code 16 = .ok (.ifCond .lt 5, 3) := by decide +kernel
theorem d5_21 : decode prog_53_method_5_code 21 = .ok (.aload_n 0, 1) := by decide +kernel
theorem d5_22 : decode prog_53_method_5_code 22 = .ok (.getfield 7, 3) := by decide +kernel
theorem d5_25 : decode prog_53_method_5_code 25 = .ok (.iconst 0, 1) := by decide +kernel
theorem d5_26 : decode prog_53_method_5_code 26 = .ok (.aload_n 0, 1) := by decide +kernel
theorem d5_27 : decode prog_53_method_5_code 27 = .ok (.getfield 13, 3) := by decide +kernel
theorem d5_30 : decode prog_53_method_5_code 30 = .ok (.lload_n 3, 1) := by decide +kernel
theorem d5_31 : decode prog_53_method_5_code 31 = .ok (.l2i, 1) := by decide +kernel
theorem d5_32 : decode prog_53_method_5_code 32 = .ok (.invokestatic 36, 3) := by decide +kernel
theorem d5_35 : decode prog_53_method_5_code 35 = .ok (.istore 5, 2) := by decide +kernel
theorem d5_37 : decode prog_53_method_5_code 37 = .ok (.iload 5, 2) := by decide +kernel
theorem d5_39 : decode prog_53_method_5_code 39 = .ok (.ifCond .ge 7, 3) := by decide +kernel
theorem d5_42 : decode prog_53_method_5_code 42 = .ok (.iconst (-1), 1) := by decide +kernel
theorem d5_43 : decode prog_53_method_5_code 43 = .ok (.goto 5, 3) := by decide +kernel
theorem d5_48 : decode prog_53_method_5_code 48 = .ok (.ireturn, 1) := by decide +kernel
theorem d5_46 : decode prog_53_method_5_code 46 = .ok (.iload 5, 2) := by decide +kernel
theorem ef_5c0 (m : MethodId) (x0 : Addr) (x1 : Int32) (x2 : Int32) : entryFrame m #[(.ref x0), (.int x1), (.int x2)] 6 = mkF m 0 #[.val (.ref x0), .val (.int x1), .val (.int x2), .unset, .unset, .unset] [] := by first | (simp [entryFrame, mkF, argsToLocals, Value.category]; done) | rfl
def Q5c0 (Z : State) (r0 : Addr) (p1 : Int32) (p2 : Int32) (ab : Addr) (kc : ClassId) (x0 : Int32) (x1 : Int32) (x2 : Int32) (x3 : Int32) (key : Int32) (h0 : Heap) (n0 : Nat) (v : Option Value) (h : Heap) (L : List Loc) : Prop := v = some (.int (own_ix0 key x0 x1 x2 x3)) ∧ Fr n0 L ∧ h = h0
set_option maxRecDepth 65536 in
set_option maxHeartbeats 40000000 in
theorem rm5c0 (l : Launch) (Z : State) (a0 : Array Value) (hw : ∀ d ∈ tables_1, d.before a0 Z = true) (ws : List Jvm.Cond) (r0 : Addr) (p1 : Int32) (p2 : Int32) (ab : Addr) (kc : ClassId) (x0 : Int32) (x1 : Int32) (x2 : Int32) (x3 : Int32) (key : Int32) (h0 : Heap) (n0 : Nat) (Z0 : n0 ≤ h0.size) (F_offsets_r0 : Fld Z h0 r0 "com/example/bytewright/bytewright/grid/ObjectStarts" "offsets" "[I" (.ref ab)) (F_count_r0 : Fld Z h0 r0 "com/example/bytewright/bytewright/grid/ObjectStarts" "count" "I" (.int (0 : Int32))) (E_r0 : Exa Z h0 r0 "com/example/bytewright/bytewright/grid/ObjectStarts") (V_ab : Arv Z h0 ab kc .int (16 : Int32) [(.int x0), (.int x1), (.int x2), (.int x3), (.int (0 : Int32)), (.int (0 : Int32)), (.int (0 : Int32)), (.int (0 : Int32)), (.int (0 : Int32)), (.int (0 : Int32)), (.int (0 : Int32)), (.int (0 : Int32)), (.int (0 : Int32)), (.int (0 : Int32)), (.int (0 : Int32)), (.int (0 : Int32))] (.int (0 : Int32))) (hne : r0 ≠ ab) (hkey : (p1.toInt64 - p2.toInt64) = key.toInt64) (hk0 : ¬ ((lcmpW key.toInt64 (0 : Int64)) < (0 : Int32))) (hk1 : (lcmpW key.toInt64 p1.toInt64) < (0 : Int32)) :
    MetFree l (⟨"com/example/bytewright/bytewright/grid/ObjectStarts", "indexOf", "(II)I"⟩ : MethodName) (head1 (Jvm.Cond.code (⟨"com/example/bytewright/bytewright/grid/ObjectStarts", "indexOf", "(II)I"⟩ : MethodName) prog_53_method_5_code 6 (some .int) :: ws) ({ frames := 2, cells := 0, slots := 0, locals := 34 } : Room)) (fun a U => a = #[(.ref r0), (.int p1), (.int p2)] ∧ Z.Warmed39 U.vm ∧ U.heap = h0) (fun _ _ _ _ _ => True) (fun _ U o U' => ∃ v L, o = .returned v ∧ Q5c0 Z r0 p1 p2 ab kc x0 x1 x2 x3 key h0 n0 v U'.heap L ∧ FrameEnd U o U' L ({ frames := 2, cells := 0, slots := 0, locals := 34 } : Room).cells ({ frames := 2, cells := 0, slots := 0, locals := 34 } : Room).slots) := by
  refine MetFree.of_bodySF (plainFor_of_name pn0) hisR ?_
  intro p e s m args below meth c s₁ Bd hml0 hP hK
  obtain ⟨rfl, hZ, hh⟩ := hP
  have hx := Bd.exec
  have hby := Bd.bytes
  have hml : c.maxLocals = 6 := hml0
  have hown : s.vm.findClass "com/example/bytewright/bytewright/grid/ObjectStarts" = some m.cls := findClass_of_methodNamed Bd.named
  have hnm := (name_of_methodNamed Bd.named Bd.method).1
  have X0 : Stand p l e ({ frames := 2, cells := 0, slots := 0, locals := 34 } : Room) s m #[(.ref r0), (.int p1), (.int p2)] below meth c s₁ [] 0 0 := Stand.of_body Bd
  have e0 : s₁.heap = h0 := by rw [← hh, Bd.state]; rfl
  have N0 := Fr.nil n0
  have pre0 : ∀ t, Steps p.tables e below (s₁.setTop (mkF m 0 #[rv r0, iv p1, iv p2, .unset, .unset, .unset] [])) t → Steps p.tables e below (s₁.setTop (entryFrame m #[(.ref r0), (.int p1), (.int p2)] 6)) t := fun t k => castTop (ef_5c0 m r0 p1 p2) k
  have pre2 : ∀ t, Steps p.tables e below (s₁.setTop (mkF m 9 #[rv r0, iv p1, iv p2, .val (.long key.toInt64), .second, .unset] [(.int (lcmpW key.toInt64 (0 : Int64)))])) t → Steps p.tables e below (s₁.setTop (entryFrame m #[(.ref r0), (.int p1), (.int p2)] 6)) t := by
    intro t kt
    refine pre0 _ ?_
    show Steps p.tables e below (s₁.setTop (mkF m 0 #[rv r0, iv p1, iv p2, .unset, .unset, .unset] [])) _
    refine XS.iloadN X0.here hx rfl (hb hby d5_0) rfl ?_
    refine XS.i2l X0.here hx rfl (hb hby d5_1) rfl ?_
    refine XS.iloadN X0.here hx rfl (hb hby d5_2) rfl ?_
    refine XS.i2l X0.here hx rfl (hb hby d5_3) rfl ?_
    refine XS.lsub X0.here hx rfl (hb hby d5_4) rfl ?_
    show Steps p.tables e below (s₁.setTop (mkF m 5 #[rv r0, iv p1, iv p2, .unset, .unset, .unset] [(.long ((p1.toInt64) - (p2.toInt64)))])) _
    rw [show ((p1.toInt64) - (p2.toInt64)) = key.toInt64 from hkey]
    show Steps p.tables e below (s₁.setTop (mkF m 5 #[rv r0, iv p1, iv p2, .unset, .unset, .unset] [(.long key.toInt64)])) _
    refine XS.lstoreN X0.here hx rfl (hb hby d5_5) rfl (l' := #[rv r0, iv p1, iv p2, .val (.long key.toInt64), .second, .unset]) rfl ?_
    refine XS.lloadN X0.here hx rfl (hb hby d5_6) rfl ?_
    refine XS.lconst X0.here hx rfl (hb hby d5_7) ?_
    refine XS.lcmp X0.here hx rfl (hb hby d5_8) rfl ?_
    exact kt
  have hc9_1 : ¬ ((lcmpW key.toInt64 (0 : Int64)) < (0 : Int32)) := hk0
  have pre4 : ∀ t, Steps p.tables e below (s₁.setTop (mkF m 16 #[rv r0, iv p1, iv p2, .val (.long key.toInt64), .second, .unset] [(.int (lcmpW key.toInt64 (p1.toInt64)))])) t → Steps p.tables e below (s₁.setTop (entryFrame m #[(.ref r0), (.int p1), (.int p2)] 6)) t := by
    intro t kt
    refine pre2 _ ?_
    show Steps p.tables e below (s₁.setTop (mkF m 9 #[rv r0, iv p1, iv p2, .val (.long key.toInt64), .second, .unset] [(.int (lcmpW key.toInt64 (0 : Int64)))])) _
    refine XS.ifNo X0.here hx rfl (hb hby d5_9) rfl ((if0 _ _).trans (flt hc9_1).1) ?_
    refine XS.lloadN X0.here hx rfl (hb hby d5_12) rfl ?_
    refine XS.iloadN X0.here hx rfl (hb hby d5_13) rfl ?_
    refine XS.i2l X0.here hx rfl (hb hby d5_14) rfl ?_
    refine XS.lcmp X0.here hx rfl (hb hby d5_15) rfl ?_
    exact kt
  have hc16_3 : (lcmpW key.toInt64 (p1.toInt64)) < (0 : Int32) := hk1
  have pre5 : ∀ t, Steps p.tables e below (s₁.setTop (mkF m 22 #[rv r0, iv p1, iv p2, .val (.long key.toInt64), .second, .unset] [(.ref r0)])) t → Steps p.tables e below (s₁.setTop (entryFrame m #[(.ref r0), (.int p1), (.int p2)] 6)) t := by
    intro t kt
    refine pre4 _ ?_
    show Steps p.tables e below (s₁.setTop (mkF m 16 #[rv r0, iv p1, iv p2, .val (.long key.toInt64), .second, .unset] [(.int (lcmpW key.toInt64 (p1.toInt64)))])) _
    refine XS.ifYes X0.here hx rfl (pc0 := 16) (pc' := 21) rfl (hb hby d5_16) rfl ((if0 _ _).trans (tlt hc16_3).1) (by decide) (by decide) ?_
    refine XS.aloadN X0.here hx rfl (hb hby d5_21) rfl rfl ?_
    exact kt
  obtain ⟨T6, X6, e6, st6⟩ := getF X0 hx hZ hown (host := "") (Or.inl (hw _ (List.mem_of_getElem? (i := 11) rfl))) Via.refl e0 F_offsets_r0 (g := (mkF m 22 #[rv r0, iv p1, iv p2, .val (.long key.toInt64), .second, .unset] [(.ref r0)])) rfl rfl (hb hby d5_22)
  have pre7 : ∀ t, Steps p.tables e below (T6.setTop (mkF m 27 #[rv r0, iv p1, iv p2, .val (.long key.toInt64), .second, .unset] [(.ref r0), (.int (0 : Int32)), (.ref ab)])) t → Steps p.tables e below (s₁.setTop (entryFrame m #[(.ref r0), (.int p1), (.int p2)] 6)) t := by
    intro t kt
    refine pre5 _ ?_
    show Steps p.tables e below (s₁.setTop (mkF m 22 #[rv r0, iv p1, iv p2, .val (.long key.toInt64), .second, .unset] [(.ref r0)])) _
    refine st6 _ ?_
    show Steps p.tables e below (T6.setTop (mkF m 25 #[rv r0, iv p1, iv p2, .val (.long key.toInt64), .second, .unset] [(.ref ab)])) _
    refine XS.iconst X6.here hx rfl (hb hby d5_25) ?_
    refine XS.aloadN X6.here hx rfl (hb hby d5_26) rfl rfl ?_
    exact kt
  obtain ⟨T8, X8, e8, st8⟩ := getF X6 hx hZ hown (host := "") (Or.inl (hw _ (List.mem_of_getElem? (i := 18) rfl))) Via.refl e6 F_count_r0 (g := (mkF m 27 #[rv r0, iv p1, iv p2, .val (.long key.toInt64), .second, .unset] [(.ref r0), (.int (0 : Int32)), (.ref ab)])) rfl rfl (hb hby d5_27)
  have pre9 : ∀ t, Steps p.tables e below (T8.setTop (mkF m 32 #[rv r0, iv p1, iv p2, .val (.long key.toInt64), .second, .unset] [(.int key), (.int (0 : Int32)), (.int (0 : Int32)), (.ref ab)])) t → Steps p.tables e below (s₁.setTop (entryFrame m #[(.ref r0), (.int p1), (.int p2)] 6)) t := by
    intro t kt
    refine pre7 _ ?_
    show Steps p.tables e below (T6.setTop (mkF m 27 #[rv r0, iv p1, iv p2, .val (.long key.toInt64), .second, .unset] [(.ref r0), (.int (0 : Int32)), (.ref ab)])) _
    refine st8 _ ?_
    show Steps p.tables e below (T8.setTop (mkF m 30 #[rv r0, iv p1, iv p2, .val (.long key.toInt64), .second, .unset] [(.int (0 : Int32)), (.int (0 : Int32)), (.ref ab)])) _
    refine XS.lloadN X8.here hx rfl (hb hby d5_30) rfl ?_
    refine XS.l2i X8.here hx rfl (hb hby d5_31) rfl ?_
    show Steps p.tables e below (T8.setTop (mkF m 32 #[rv r0, iv p1, iv p2, .val (.long key.toInt64), .second, .unset] [(.int (key.toInt64.toInt32)), (.int (0 : Int32)), (.int (0 : Int32)), (.ref ab)])) _
    rw [show (key.toInt64.toInt32) = key from (Int32.toInt32_toInt64 key)]
    exact kt
  obtain ⟨_, _, ⟨T10, L10, k10, n10⟩, -, X10, ⟨Lc10, hQ10, l10, y10, z10⟩, st10⟩ := Jvm.LawKit.callS X8 hx (y := (⟨"java/util/Arrays", "binarySearch", "([IIII)I"⟩ : MethodName)) hown (mvT hZ (hw _ (List.mem_of_getElem? (i := 30) rfl))) (mvT hZ (hw _ (List.mem_of_getElem? (i := 31) rfl))) (mvT hZ (hw _ (List.mem_of_getElem? (i := 32) rfl))) (mvT hZ (hw _ (List.mem_of_getElem? (i := 33) rfl))) (by decide) (backOf (W := 0) (rm6c0 l Z a0 hw [] ab key kc x0 x1 x2 x3 h0 n0 (Nat.le_trans Z0 (Keep.refl h0 []).1) V_ab) hZ (hw _ (List.mem_of_getElem? (i := 33) rfl)) (hw _ (List.mem_of_getElem? (i := 32) rfl)) (by decide) (by decide)) (g := (mkF m 32 #[rv r0, iv p1, iv p2, .val (.long key.toInt64), .second, .unset] [(.int key), (.int (0 : Int32)), (.int (0 : Int32)), (.ref ab)])) rfl (by rw [hml]; rfl) (argsL := [(.ref ab), (.int (0 : Int32)), (.int (0 : Int32)), (.int key)]) (rest := []) (lenOf pd3 rfl) rfl (by show 2 * 0 + _ ≤ _; exact Nat.le_of_eq rfl) (hb hby d5_32) (fun _ _ => ⟨rfl, e8, (by decide : 0 + 0 ≤ _), (by decide : 0 + 0 ≤ _)⟩)
  dsimp only [Pt.U, Pt.locs, Pt.cells, Pt.slots] at X10 l10 y10 z10 st10 hQ10
  subst l10 y10 z10
  obtain ⟨rfl, N10q, hh10⟩ := hQ10
  have N10 := Fr.app N0 N10q
  have pre11 : ∀ t, Steps p.tables e below (T10.setTop (mkF m 39 #[rv r0, iv p1, iv p2, .val (.long key.toInt64), .second, iv (own_bs0 key x0 x1 x2 x3)] [(.int (own_bs0 key x0 x1 x2 x3))])) t → Steps p.tables e below (s₁.setTop (entryFrame m #[(.ref r0), (.int p1), (.int p2)] 6)) t := by
    intro t kt
    refine pre9 _ ?_
    show Steps p.tables e below (T8.setTop (mkF m 32 #[rv r0, iv p1, iv p2, .val (.long key.toInt64), .second, .unset] [(.int key), (.int (0 : Int32)), (.int (0 : Int32)), (.ref ab)])) _
    refine st10 _ ?_
    show Steps p.tables e below (T10.setTop (mkF m 35 #[rv r0, iv p1, iv p2, .val (.long key.toInt64), .second, .unset] [(.int (own_bs0 key x0 x1 x2 x3))])) _
    refine XS.istore X10.here hx rfl (hb hby d5_35) rfl (l' := #[rv r0, iv p1, iv p2, .val (.long key.toInt64), .second, iv (own_bs0 key x0 x1 x2 x3)]) rfl ?_
    refine XS.iload X10.here hx rfl (hb hby d5_37) rfl ?_
    exact kt
  by_cases hc39 : (own_bs0 key x0 x1 x2 x3) < (0 : Int32)
  · have pre12 : ∀ t, Steps p.tables e below (T10.setTop (mkF m 48 #[rv r0, iv p1, iv p2, .val (.long key.toInt64), .second, iv (own_bs0 key x0 x1 x2 x3)] [(.int (-1 : Int32))])) t → Steps p.tables e below (s₁.setTop (entryFrame m #[(.ref r0), (.int p1), (.int p2)] 6)) t := by
      intro t kt
      refine pre11 _ ?_
      show Steps p.tables e below (T10.setTop (mkF m 39 #[rv r0, iv p1, iv p2, .val (.long key.toInt64), .second, iv (own_bs0 key x0 x1 x2 x3)] [(.int (own_bs0 key x0 x1 x2 x3))])) _
      refine XS.ifNo X10.here hx rfl (hb hby d5_39) rfl ((if0 _ _).trans (tlt hc39).2.1) ?_
      refine XS.iconst X10.here hx rfl (hb hby d5_42) ?_
      refine XS.goto X10.here hx rfl (pc0 := 43) (pc' := 48) rfl (hb hby d5_43) (by decide) (by decide) ?_
      exact kt
    obtain ⟨fs, hr, hrun, hended, hW, hsame⟩ := X10.leave (v := some (.int (-1 : Int32))) (fun h => by rw [Bd.returns] at h; cases h)
    refine ⟨_, _, pre12 _ ?_, hrun, hended, _, _, rfl, ?_, ⟨_, rfl⟩, hW, hsame.mono (by decide) (by decide)⟩
    · show Steps p.tables e below (T10.setTop (mkF m 48 #[rv r0, iv p1, iv p2, .val (.long key.toInt64), .second, iv (own_bs0 key x0 x1 x2 x3)] [(.int (-1 : Int32))])) _
      exact retI X10 hx Bd.returns (hb hby d5_48) hr
    · show Q5c0 Z r0 p1 p2 ab kc x0 x1 x2 x3 key h0 n0 _ T10.heap _
      rw [hh10]
      exact ⟨congrArg (fun z => some (Value.int z)) ((if_pos hc39).trans rfl).symm, N10, rfl⟩
  · have pre13 : ∀ t, Steps p.tables e below (T10.setTop (mkF m 48 #[rv r0, iv p1, iv p2, .val (.long key.toInt64), .second, iv (own_bs0 key x0 x1 x2 x3)] [(.int (own_bs0 key x0 x1 x2 x3))])) t → Steps p.tables e below (s₁.setTop (entryFrame m #[(.ref r0), (.int p1), (.int p2)] 6)) t := by
      intro t kt
      refine pre11 _ ?_
      show Steps p.tables e below (T10.setTop (mkF m 39 #[rv r0, iv p1, iv p2, .val (.long key.toInt64), .second, iv (own_bs0 key x0 x1 x2 x3)] [(.int (own_bs0 key x0 x1 x2 x3))])) _
      refine XS.ifYes X10.here hx rfl (pc0 := 39) (pc' := 46) rfl (hb hby d5_39) rfl ((if0 _ _).trans (flt hc39).2.1) (by decide) (by decide) ?_
      refine XS.iload X10.here hx rfl (hb hby d5_46) rfl ?_
      exact kt
    obtain ⟨fs, hr, hrun, hended, hW, hsame⟩ := X10.leave (v := some (.int (own_bs0 key x0 x1 x2 x3))) (fun h => by rw [Bd.returns] at h; cases h)
    refine ⟨_, _, pre13 _ ?_, hrun, hended, _, _, rfl, ?_, ⟨_, rfl⟩, hW, hsame.mono (by decide) (by decide)⟩
    · show Steps p.tables e below (T10.setTop (mkF m 48 #[rv r0, iv p1, iv p2, .val (.long key.toInt64), .second, iv (own_bs0 key x0 x1 x2 x3)] [(.int (own_bs0 key x0 x1 x2 x3))])) _
      exact retI X10 hx Bd.returns (hb hby d5_48) hr
    · show Q5c0 Z r0 p1 p2 ab kc x0 x1 x2 x3 key h0 n0 _ T10.heap _
      rw [hh10]
      exact ⟨congrArg (fun z => some (Value.int z)) ((if_neg hc39).trans rfl).symm, N10, rfl⟩

theorem ef_7c1 (m : MethodId) (x0 : Int32) (x1 : Int32) (x2 : Int32) : entryFrame m #[(.int x0), (.int x1), (.int x2)] 3 = mkF m 0 #[.val (.int x0), .val (.int x1), .val (.int x2)] [] := by first | (simp [entryFrame, mkF, argsToLocals, Value.category]; done) | rfl
def Q7c1 (Z : State)  (h0 : Heap) (n0 : Nat) (v : Option Value) (h : Heap) (L : List Loc) : Prop := v = none ∧ Fr n0 L ∧ h = h0
set_option maxRecDepth 65536 in
set_option maxHeartbeats 40000000 in
theorem rm7c1 (l : Launch) (Z : State) (a0 : Array Value) (hw : ∀ d ∈ tables_1, d.before a0 Z = true) (ws : List Jvm.Cond)  (h0 : Heap) (n0 : Nat) (Z0 : n0 ≤ h0.size) :
    MetFree l (⟨"java/util/Arrays", "rangeCheck", "(III)V"⟩ : MethodName) (head1 (Jvm.Cond.code (⟨"java/util/Arrays", "rangeCheck", "(III)V"⟩ : MethodName) jdk_65_method_30_code 3 none :: ws) ({ frames := 0, cells := 0, slots := 0, locals := 0 } : Room)) (fun a U => a = #[(.int (16 : Int32)), (.int (0 : Int32)), (.int (1 : Int32))] ∧ Z.Warmed39 U.vm ∧ U.heap = h0) (fun _ _ _ _ _ => True) (fun _ U o U' => ∃ v L, o = .returned v ∧ Q7c1 Z  h0 n0 v U'.heap L ∧ FrameEnd U o U' L ({ frames := 0, cells := 0, slots := 0, locals := 0 } : Room).cells ({ frames := 0, cells := 0, slots := 0, locals := 0 } : Room).slots) := by
  refine MetFree.of_bodySF (plainFor_of_name pn1) hisR ?_
  intro p e s m args below meth c s₁ Bd hml0 hP hK
  obtain ⟨rfl, hZ, hh⟩ := hP
  have hx := Bd.exec
  have hby := Bd.bytes
  have hml : c.maxLocals = 3 := hml0
  have hown : s.vm.findClass "java/util/Arrays" = some m.cls := findClass_of_methodNamed Bd.named
  have hnm := (name_of_methodNamed Bd.named Bd.method).1
  have X0 : Stand p l e ({ frames := 0, cells := 0, slots := 0, locals := 0 } : Room) s m #[(.int (16 : Int32)), (.int (0 : Int32)), (.int (1 : Int32))] below meth c s₁ [] 0 0 := Stand.of_body Bd
  have e0 : s₁.heap = h0 := by rw [← hh, Bd.state]; rfl
  have N0 := Fr.nil n0
  have pre0 : ∀ t, Steps p.tables e below (s₁.setTop (mkF m 0 #[iv (16 : Int32), iv (0 : Int32), iv (1 : Int32)] [])) t → Steps p.tables e below (s₁.setTop (entryFrame m #[(.int (16 : Int32)), (.int (0 : Int32)), (.int (1 : Int32))] 3)) t := fun t k => castTop (ef_7c1 m (16 : Int32) (0 : Int32) (1 : Int32)) k
  have pre1 : ∀ t, Steps p.tables e below (s₁.setTop (mkF m 73 #[iv (16 : Int32), iv (0 : Int32), iv (1 : Int32)] [])) t → Steps p.tables e below (s₁.setTop (entryFrame m #[(.int (16 : Int32)), (.int (0 : Int32)), (.int (1 : Int32))] 3)) t := by
    intro t kt
    refine pre0 _ ?_
    show Steps p.tables e below (s₁.setTop (mkF m 0 #[iv (16 : Int32), iv (0 : Int32), iv (1 : Int32)] [])) _
    refine XS.iloadN X0.here hx rfl (hb hby d7_0) rfl ?_
    refine XS.iloadN X0.here hx rfl (hb hby d7_1) rfl ?_
    refine XS.icmpYes X0.here hx rfl (pc0 := 2) (pc' := 46) rfl (hb hby d7_2) rfl (flt (by decide)).2.2.2 (by decide) (by decide) ?_
    refine XS.iloadN X0.here hx rfl (hb hby d7_46) rfl ?_
    refine XS.ifYes X0.here hx rfl (pc0 := 47) (pc' := 59) rfl (hb hby d7_47) rfl ((if0 _ _).trans (flt (by decide)).2.1) (by decide) (by decide) ?_
    refine XS.iloadN X0.here hx rfl (hb hby d7_59) rfl ?_
    refine XS.iloadN X0.here hx rfl (hb hby d7_60) rfl ?_
    refine XS.icmpYes X0.here hx rfl (pc0 := 61) (pc' := 73) rfl (hb hby d7_61) rfl (flt (by decide)).2.2.2 (by decide) (by decide) ?_
    exact kt
  obtain ⟨fs, hr, hrun, hended, hW, hsame⟩ := X0.leave (v := none) (fun _ => rfl)
  refine ⟨_, _, pre1 _ ?_, hrun, hended, _, _, rfl, ?_, ⟨_, rfl⟩, hW, hsame.mono (by decide) (by decide)⟩
  · show Steps p.tables e below (s₁.setTop (mkF m 73 #[iv (16 : Int32), iv (0 : Int32), iv (1 : Int32)] [])) _
    exact X0.returnOut hx Bd.returns (hb hby d7_73) hr
  · show Q7c1 Z  h0 n0 _ s₁.heap _
    rw [e0]
    exact ⟨rfl, N0, rfl⟩
def own_bs1 (p3 : Int32) (x0 : Int32) (x1 : Int32) (x2 : Int32) (x3 : Int32) : Int32 := (if x0 < p3 then (-2 : Int32) else (if p3 < x0 then (-1 : Int32) else (0 : Int32)))
theorem d8_15 : decode jdk_65_method_59_code 15 = .ok (.iload 4, 2) := by decide +kernel
theorem d8_17 : decode jdk_65_method_59_code 17 = .ok (.iload 5, 2) := by decide +kernel
theorem d8_19 : decode jdk_65_method_59_code 19 = .ok (.iadd, 1) := by decide +kernel
theorem d8_20 : decode jdk_65_method_59_code 20 = .ok (.iconst 1, 1) := by decide +kernel
theorem d8_21 : decode jdk_65_method_59_code 21 = .ok (.iushr, 1) := by decide +kernel
theorem d8_22 : decode jdk_65_method_59_code 22 = .ok (.istore 6, 2) := by decide +kernel
theorem d8_24 : decode jdk_65_method_59_code 24 = .ok (.aload_n 0, 1) := by decide +kernel
theorem d8_25 : decode jdk_65_method_59_code 25 = .ok (.iload 6, 2) := by decide +kernel
theorem d8_27 : decode jdk_65_method_59_code 27 = .ok (.iaload, 1) := by decide +kernel
theorem d8_28 : decode jdk_65_method_59_code 28 = .ok (.istore 7, 2) := by decide +kernel
theorem d8_30 : decode jdk_65_method_59_code 30 = .ok (.iload 7, 2) := by decide +kernel
theorem d8_32 : decode jdk_65_method_59_code 32 = .ok (.iload_n 3, 1) := by decide +kernel
theorem d8_33 : decode jdk_65_method_59_code 33 = .ok (.if_icmp .ge 12, 3) := by decide +kernel
theorem d8_36 : decode jdk_65_method_59_code 36 = .ok (.iload 6, 2) := by decide +kernel
theorem d8_38 : decode jdk_65_method_59_code 38 = .ok (.iconst 1, 1) := by decide +kernel
theorem d8_39 : decode jdk_65_method_59_code 39 = .ok (.iadd, 1) := by decide +kernel
theorem d8_40 : decode jdk_65_method_59_code 40 = .ok (.istore 4, 2) := by decide +kernel
theorem d8_42 : decode jdk_65_method_59_code 42 = .ok (.goto 21, 3) := by decide +kernel
theorem d8_63 : decode jdk_65_method_59_code 63 = .ok (.goto (-55), 3) := by decide +kernel
theorem d8_45 : decode jdk_65_method_59_code 45 = .ok (.iload 7, 2) := by decide +kernel
theorem d8_47 : decode jdk_65_method_59_code 47 = .ok (.iload_n 3, 1) := by decide +kernel
theorem d8_48 : decode jdk_65_method_59_code 48 = .ok (.if_icmp .le 12, 3) := by decide +kernel
theorem d8_51 : decode jdk_65_method_59_code 51 = .ok (.iload 6, 2) := by decide +kernel
theorem d8_53 : decode jdk_65_method_59_code 53 = .ok (.iconst 1, 1) := by decide +kernel
theorem d8_54 : decode jdk_65_method_59_code 54 = .ok (.isub, 1) := by decide +kernel
theorem d8_55 : decode jdk_65_method_59_code 55 = .ok (.istore 5, 2) := by decide +kernel
theorem d8_57 : decode jdk_65_method_59_code 57 = .ok (.goto 6, 3) := by decide +kernel
theorem d8_60 : decode jdk_65_method_59_code 60 = .ok (.iload 6, 2) := by decide +kernel
theorem d8_62 : decode jdk_65_method_59_code 62 = .ok (.ireturn, 1) := by decide +kernel
theorem ef_8c1 (m : MethodId) (x0 : Addr) (x1 : Int32) (x2 : Int32) (x3 : Int32) : entryFrame m #[(.ref x0), (.int x1), (.int x2), (.int x3)] 8 = mkF m 0 #[.val (.ref x0), .val (.int x1), .val (.int x2), .val (.int x3), .unset, .unset, .unset, .unset] [] := by first | (simp [entryFrame, mkF, argsToLocals, Value.category]; done) | rfl
def Q8c1 (Z : State) (r0 : Addr) (p3 : Int32) (kc : ClassId) (x0 : Int32) (x1 : Int32) (x2 : Int32) (x3 : Int32) (h0 : Heap) (n0 : Nat) (v : Option Value) (h : Heap) (L : List Loc) : Prop := v = some (.int (own_bs1 p3 x0 x1 x2 x3)) ∧ Fr n0 L ∧ h = h0
set_option maxRecDepth 65536 in
set_option maxHeartbeats 40000000 in
theorem rm8c1 (l : Launch) (Z : State) (a0 : Array Value) (hw : ∀ d ∈ tables_1, d.before a0 Z = true) (ws : List Jvm.Cond) (r0 : Addr) (p3 : Int32) (kc : ClassId) (x0 : Int32) (x1 : Int32) (x2 : Int32) (x3 : Int32) (h0 : Heap) (n0 : Nat) (Z0 : n0 ≤ h0.size) (V_r0 : Arv Z h0 r0 kc .int (16 : Int32) [(.int x0), (.int x1), (.int x2), (.int x3), (.int (0 : Int32)), (.int (0 : Int32)), (.int (0 : Int32)), (.int (0 : Int32)), (.int (0 : Int32)), (.int (0 : Int32)), (.int (0 : Int32)), (.int (0 : Int32)), (.int (0 : Int32)), (.int (0 : Int32)), (.int (0 : Int32)), (.int (0 : Int32))] (.int (0 : Int32))) :
    MetFree l (⟨"java/util/Arrays", "binarySearch0", "([IIII)I"⟩ : MethodName) (head1 (Jvm.Cond.code (⟨"java/util/Arrays", "binarySearch0", "([IIII)I"⟩ : MethodName) jdk_65_method_59_code 8 (some .int) :: ws) ({ frames := 0, cells := 0, slots := 0, locals := 0 } : Room)) (fun a U => a = #[(.ref r0), (.int (0 : Int32)), (.int (1 : Int32)), (.int p3)] ∧ Z.Warmed39 U.vm ∧ U.heap = h0) (fun _ _ _ _ _ => True) (fun _ U o U' => ∃ v L, o = .returned v ∧ Q8c1 Z r0 p3 kc x0 x1 x2 x3 h0 n0 v U'.heap L ∧ FrameEnd U o U' L ({ frames := 0, cells := 0, slots := 0, locals := 0 } : Room).cells ({ frames := 0, cells := 0, slots := 0, locals := 0 } : Room).slots) := by
  refine MetFree.of_bodySF (plainFor_of_name pn1) hisR ?_
  intro p e s m args below meth c s₁ Bd hml0 hP hK
  obtain ⟨rfl, hZ, hh⟩ := hP
  have hx := Bd.exec
  have hby := Bd.bytes
  have hml : c.maxLocals = 8 := hml0
  have hown : s.vm.findClass "java/util/Arrays" = some m.cls := findClass_of_methodNamed Bd.named
  have hnm := (name_of_methodNamed Bd.named Bd.method).1
  have X0 : Stand p l e ({ frames := 0, cells := 0, slots := 0, locals := 0 } : Room) s m #[(.ref r0), (.int (0 : Int32)), (.int (1 : Int32)), (.int p3)] below meth c s₁ [] 0 0 := Stand.of_body Bd
  have e0 : s₁.heap = h0 := by rw [← hh, Bd.state]; rfl
  have N0 := Fr.nil n0
  have pre0 : ∀ t, Steps p.tables e below (s₁.setTop (mkF m 0 #[rv r0, iv (0 : Int32), iv (1 : Int32), iv p3, .unset, .unset, .unset, .unset] [])) t → Steps p.tables e below (s₁.setTop (entryFrame m #[(.ref r0), (.int (0 : Int32)), (.int (1 : Int32)), (.int p3)] 8)) t := fun t k => castTop (ef_8c1 m r0 (0 : Int32) (1 : Int32) p3) k
  obtain ⟨cl1, Ar1, q1, S1, M1, H1, G1⟩ := id V_r0
  have hin1 : ¬ ((0 : Int32) < 0 ∨ cl1.slots.size ≤ ((0 : Int32)).toNatClampNeg) := inb_of S1 ⟨by decide, by decide⟩
  have hat1 : cl1.slots[((0 : Int32)).toNatClampNeg]? = some (.int x0) := H1.at hin1 rfl
  have pre2 : ∀ t, Steps p.tables e below (s₁.setTop (mkF m 33 #[rv r0, iv (0 : Int32), iv (1 : Int32), iv p3, iv (0 : Int32), iv (0 : Int32), iv (0 : Int32), iv x0] [(.int p3), (.int x0)])) t → Steps p.tables e below (s₁.setTop (entryFrame m #[(.ref r0), (.int (0 : Int32)), (.int (1 : Int32)), (.int p3)] 8)) t := by
    intro t kt
    refine pre0 _ ?_
    show Steps p.tables e below (s₁.setTop (mkF m 0 #[rv r0, iv (0 : Int32), iv (1 : Int32), iv p3, .unset, .unset, .unset, .unset] [])) _
    refine XS.iloadN X0.here hx rfl (hb hby d8_0) rfl ?_
    refine XS.istore X0.here hx rfl (hb hby d8_1) rfl (l' := #[rv r0, iv (0 : Int32), iv (1 : Int32), iv p3, iv (0 : Int32), .unset, .unset, .unset]) rfl ?_
    refine XS.iloadN X0.here hx rfl (hb hby d8_3) rfl ?_
    refine XS.iconst X0.here hx rfl (hb hby d8_4) ?_
    refine XS.isub X0.here hx rfl (hb hby d8_5) rfl ?_
    show Steps p.tables e below (s₁.setTop (mkF m 6 #[rv r0, iv (0 : Int32), iv (1 : Int32), iv p3, iv (0 : Int32), .unset, .unset, .unset] [(.int ((1 : Int32) - (1 : Int32)))])) _
    rw [show ((1 : Int32) - (1 : Int32)) = (0 : Int32) from (by decide)]
    show Steps p.tables e below (s₁.setTop (mkF m 6 #[rv r0, iv (0 : Int32), iv (1 : Int32), iv p3, iv (0 : Int32), .unset, .unset, .unset] [(.int (0 : Int32))])) _
    refine XS.istore X0.here hx rfl (hb hby d8_6) rfl (l' := #[rv r0, iv (0 : Int32), iv (1 : Int32), iv p3, iv (0 : Int32), iv (0 : Int32), .unset, .unset]) rfl ?_
    refine XS.iload X0.here hx rfl (hb hby d8_8) rfl ?_
    refine XS.iload X0.here hx rfl (hb hby d8_10) rfl ?_
    refine XS.icmpNo X0.here hx rfl (hb hby d8_12) rfl (flt (by decide)).2.2.1 ?_
    refine XS.iload X0.here hx rfl (hb hby d8_15) rfl ?_
    refine XS.iload X0.here hx rfl (hb hby d8_17) rfl ?_
    refine XS.iadd X0.here hx rfl (hb hby d8_19) rfl ?_
    show Steps p.tables e below (s₁.setTop (mkF m 20 #[rv r0, iv (0 : Int32), iv (1 : Int32), iv p3, iv (0 : Int32), iv (0 : Int32), .unset, .unset] [(.int ((0 : Int32) + (0 : Int32)))])) _
    rw [show ((0 : Int32) + (0 : Int32)) = (0 : Int32) from (by decide)]
    show Steps p.tables e below (s₁.setTop (mkF m 20 #[rv r0, iv (0 : Int32), iv (1 : Int32), iv p3, iv (0 : Int32), iv (0 : Int32), .unset, .unset] [(.int (0 : Int32))])) _
    refine XS.iconst X0.here hx rfl (hb hby d8_20) ?_
    refine XS.iushr X0.here hx rfl (hb hby d8_21) rfl ?_
    show Steps p.tables e below (s₁.setTop (mkF m 22 #[rv r0, iv (0 : Int32), iv (1 : Int32), iv p3, iv (0 : Int32), iv (0 : Int32), .unset, .unset] [(.int (((0 : Int32).toUInt32 >>> ((1 : Int32) &&& 31).toUInt32).toInt32))])) _
    rw [show (((0 : Int32).toUInt32 >>> ((1 : Int32) &&& 31).toUInt32).toInt32) = (0 : Int32) from (by decide)]
    show Steps p.tables e below (s₁.setTop (mkF m 22 #[rv r0, iv (0 : Int32), iv (1 : Int32), iv p3, iv (0 : Int32), iv (0 : Int32), .unset, .unset] [(.int (0 : Int32))])) _
    refine XS.istore X0.here hx rfl (hb hby d8_22) rfl (l' := #[rv r0, iv (0 : Int32), iv (1 : Int32), iv p3, iv (0 : Int32), iv (0 : Int32), iv (0 : Int32), .unset]) rfl ?_
    refine XS.aloadN X0.here hx rfl (hb hby d8_24) rfl rfl ?_
    refine XS.iload X0.here hx rfl (hb hby d8_25) rfl ?_
    refine X0.iaload hx (j := (0 : Int32)) (v := (.int x0)) (by rw [e0]; exact Ar1.1) (State.isArrayOf_alike hZ.alike Ar1.2.1) Ar1.2.2 hin1 hat1 (g := (mkF m 27 #[rv r0, iv (0 : Int32), iv (1 : Int32), iv p3, iv (0 : Int32), iv (0 : Int32), iv (0 : Int32), .unset] [(.int (0 : Int32)), (.ref r0)])) rfl rfl (hb hby d8_27) _ ?_
    show Steps p.tables e below (s₁.setTop (mkF m 28 #[rv r0, iv (0 : Int32), iv (1 : Int32), iv p3, iv (0 : Int32), iv (0 : Int32), iv (0 : Int32), .unset] [(.int x0)])) _
    refine XS.istore X0.here hx rfl (hb hby d8_28) rfl (l' := #[rv r0, iv (0 : Int32), iv (1 : Int32), iv p3, iv (0 : Int32), iv (0 : Int32), iv (0 : Int32), iv x0]) rfl ?_
    refine XS.iload X0.here hx rfl (hb hby d8_30) rfl ?_
    refine XS.iloadN X0.here hx rfl (hb hby d8_32) rfl ?_
    exact kt
  by_cases hc33 : x0 < p3
  · have pre3 : ∀ t, Steps p.tables e below (s₁.setTop (mkF m 71 #[rv r0, iv (0 : Int32), iv (1 : Int32), iv p3, iv (1 : Int32), iv (0 : Int32), iv (0 : Int32), iv x0] [(.int (-2 : Int32))])) t → Steps p.tables e below (s₁.setTop (entryFrame m #[(.ref r0), (.int (0 : Int32)), (.int (1 : Int32)), (.int p3)] 8)) t := by
      intro t kt
      refine pre2 _ ?_
      show Steps p.tables e below (s₁.setTop (mkF m 33 #[rv r0, iv (0 : Int32), iv (1 : Int32), iv p3, iv (0 : Int32), iv (0 : Int32), iv (0 : Int32), iv x0] [(.int p3), (.int x0)])) _
      refine XS.icmpNo X0.here hx rfl (hb hby d8_33) rfl (tlt hc33).2.1 ?_
      refine XS.iload X0.here hx rfl (hb hby d8_36) rfl ?_
      refine XS.iconst X0.here hx rfl (hb hby d8_38) ?_
      refine XS.iadd X0.here hx rfl (hb hby d8_39) rfl ?_
      show Steps p.tables e below (s₁.setTop (mkF m 40 #[rv r0, iv (0 : Int32), iv (1 : Int32), iv p3, iv (0 : Int32), iv (0 : Int32), iv (0 : Int32), iv x0] [(.int ((0 : Int32) + (1 : Int32)))])) _
      rw [show ((0 : Int32) + (1 : Int32)) = (1 : Int32) from (by decide)]
      show Steps p.tables e below (s₁.setTop (mkF m 40 #[rv r0, iv (0 : Int32), iv (1 : Int32), iv p3, iv (0 : Int32), iv (0 : Int32), iv (0 : Int32), iv x0] [(.int (1 : Int32))])) _
      refine XS.istore X0.here hx rfl (hb hby d8_40) rfl (l' := #[rv r0, iv (0 : Int32), iv (1 : Int32), iv p3, iv (1 : Int32), iv (0 : Int32), iv (0 : Int32), iv x0]) rfl ?_
      refine XS.goto X0.here hx rfl (pc0 := 42) (pc' := 63) rfl (hb hby d8_42) (by decide) (by decide) ?_
      refine XS.goto X0.here hx rfl (pc0 := 63) (pc' := 8) rfl (hb hby d8_63) (by decide) (by decide) ?_
      refine XS.iload X0.here hx rfl (hb hby d8_8) rfl ?_
      refine XS.iload X0.here hx rfl (hb hby d8_10) rfl ?_
      refine XS.icmpYes X0.here hx rfl (pc0 := 12) (pc' := 66) rfl (hb hby d8_12) rfl (tlt (by decide)).2.2.1 (by decide) (by decide) ?_
      refine XS.iload X0.here hx rfl (hb hby d8_66) rfl ?_
      refine XS.iconst X0.here hx rfl (hb hby d8_68) ?_
      show Steps p.tables e below (s₁.setTop (mkF m 69 #[rv r0, iv (0 : Int32), iv (1 : Int32), iv p3, iv (1 : Int32), iv (0 : Int32), iv (0 : Int32), iv x0] [(.int (1 : Int32)), (.int (1 : Int32))])) _
      refine XS.iadd X0.here hx rfl (hb hby d8_69) rfl ?_
      show Steps p.tables e below (s₁.setTop (mkF m 70 #[rv r0, iv (0 : Int32), iv (1 : Int32), iv p3, iv (1 : Int32), iv (0 : Int32), iv (0 : Int32), iv x0] [(.int ((1 : Int32) + (1 : Int32)))])) _
      rw [show ((1 : Int32) + (1 : Int32)) = (2 : Int32) from (by decide)]
      show Steps p.tables e below (s₁.setTop (mkF m 70 #[rv r0, iv (0 : Int32), iv (1 : Int32), iv p3, iv (1 : Int32), iv (0 : Int32), iv (0 : Int32), iv x0] [(.int (2 : Int32))])) _
      refine XS.ineg X0.here hx rfl (hb hby d8_70) rfl ?_
      show Steps p.tables e below (s₁.setTop (mkF m 71 #[rv r0, iv (0 : Int32), iv (1 : Int32), iv p3, iv (1 : Int32), iv (0 : Int32), iv (0 : Int32), iv x0] [(.int (-(2 : Int32)))])) _
      rw [show (-(2 : Int32)) = (-2 : Int32) from (by decide)]
      exact kt
    obtain ⟨fs, hr, hrun, hended, hW, hsame⟩ := X0.leave (v := some (.int (-2 : Int32))) (fun h => by rw [Bd.returns] at h; cases h)
    refine ⟨_, _, pre3 _ ?_, hrun, hended, _, _, rfl, ?_, ⟨_, rfl⟩, hW, hsame.mono (by decide) (by decide)⟩
    · show Steps p.tables e below (s₁.setTop (mkF m 71 #[rv r0, iv (0 : Int32), iv (1 : Int32), iv p3, iv (1 : Int32), iv (0 : Int32), iv (0 : Int32), iv x0] [(.int (-2 : Int32))])) _
      exact retI X0 hx Bd.returns (hb hby d8_71) hr
    · show Q8c1 Z r0 p3 kc x0 x1 x2 x3 h0 n0 _ s₁.heap _
      rw [e0]
      exact ⟨congrArg (fun z => some (Value.int z)) ((if_pos hc33).trans rfl).symm, N0, rfl⟩
  · have pre4 : ∀ t, Steps p.tables e below (s₁.setTop (mkF m 48 #[rv r0, iv (0 : Int32), iv (1 : Int32), iv p3, iv (0 : Int32), iv (0 : Int32), iv (0 : Int32), iv x0] [(.int p3), (.int x0)])) t → Steps p.tables e below (s₁.setTop (entryFrame m #[(.ref r0), (.int (0 : Int32)), (.int (1 : Int32)), (.int p3)] 8)) t := by
      intro t kt
      refine pre2 _ ?_
      show Steps p.tables e below (s₁.setTop (mkF m 33 #[rv r0, iv (0 : Int32), iv (1 : Int32), iv p3, iv (0 : Int32), iv (0 : Int32), iv (0 : Int32), iv x0] [(.int p3), (.int x0)])) _
      refine XS.icmpYes X0.here hx rfl (pc0 := 33) (pc' := 45) rfl (hb hby d8_33) rfl (flt hc33).2.1 (by decide) (by decide) ?_
      refine XS.iload X0.here hx rfl (hb hby d8_45) rfl ?_
      refine XS.iloadN X0.here hx rfl (hb hby d8_47) rfl ?_
      exact kt
    by_cases hc48 : p3 < x0
    · have pre5 : ∀ t, Steps p.tables e below (s₁.setTop (mkF m 71 #[rv r0, iv (0 : Int32), iv (1 : Int32), iv p3, iv (0 : Int32), iv (-1 : Int32), iv (0 : Int32), iv x0] [(.int (-1 : Int32))])) t → Steps p.tables e below (s₁.setTop (entryFrame m #[(.ref r0), (.int (0 : Int32)), (.int (1 : Int32)), (.int p3)] 8)) t := by
        intro t kt
        refine pre4 _ ?_
        show Steps p.tables e below (s₁.setTop (mkF m 48 #[rv r0, iv (0 : Int32), iv (1 : Int32), iv p3, iv (0 : Int32), iv (0 : Int32), iv (0 : Int32), iv x0] [(.int p3), (.int x0)])) _
        refine XS.icmpNo X0.here hx rfl (hb hby d8_48) rfl (tlt hc48).2.2.2 ?_
        refine XS.iload X0.here hx rfl (hb hby d8_51) rfl ?_
        refine XS.iconst X0.here hx rfl (hb hby d8_53) ?_
        refine XS.isub X0.here hx rfl (hb hby d8_54) rfl ?_
        show Steps p.tables e below (s₁.setTop (mkF m 55 #[rv r0, iv (0 : Int32), iv (1 : Int32), iv p3, iv (0 : Int32), iv (0 : Int32), iv (0 : Int32), iv x0] [(.int ((0 : Int32) - (1 : Int32)))])) _
        rw [show ((0 : Int32) - (1 : Int32)) = (-1 : Int32) from (by decide)]
        show Steps p.tables e below (s₁.setTop (mkF m 55 #[rv r0, iv (0 : Int32), iv (1 : Int32), iv p3, iv (0 : Int32), iv (0 : Int32), iv (0 : Int32), iv x0] [(.int (-1 : Int32))])) _
        refine XS.istore X0.here hx rfl (hb hby d8_55) rfl (l' := #[rv r0, iv (0 : Int32), iv (1 : Int32), iv p3, iv (0 : Int32), iv (-1 : Int32), iv (0 : Int32), iv x0]) rfl ?_
        refine XS.goto X0.here hx rfl (pc0 := 57) (pc' := 63) rfl (hb hby d8_57) (by decide) (by decide) ?_
        refine XS.goto X0.here hx rfl (pc0 := 63) (pc' := 8) rfl (hb hby d8_63) (by decide) (by decide) ?_
        refine XS.iload X0.here hx rfl (hb hby d8_8) rfl ?_
        refine XS.iload X0.here hx rfl (hb hby d8_10) rfl ?_
        refine XS.icmpYes X0.here hx rfl (pc0 := 12) (pc' := 66) rfl (hb hby d8_12) rfl (tlt (by decide)).2.2.1 (by decide) (by decide) ?_
        refine XS.iload X0.here hx rfl (hb hby d8_66) rfl ?_
        refine XS.iconst X0.here hx rfl (hb hby d8_68) ?_
        show Steps p.tables e below (s₁.setTop (mkF m 69 #[rv r0, iv (0 : Int32), iv (1 : Int32), iv p3, iv (0 : Int32), iv (-1 : Int32), iv (0 : Int32), iv x0] [(.int (1 : Int32)), (.int (0 : Int32))])) _
        refine XS.iadd X0.here hx rfl (hb hby d8_69) rfl ?_
        show Steps p.tables e below (s₁.setTop (mkF m 70 #[rv r0, iv (0 : Int32), iv (1 : Int32), iv p3, iv (0 : Int32), iv (-1 : Int32), iv (0 : Int32), iv x0] [(.int ((0 : Int32) + (1 : Int32)))])) _
        rw [show ((0 : Int32) + (1 : Int32)) = (1 : Int32) from (by decide)]
        show Steps p.tables e below (s₁.setTop (mkF m 70 #[rv r0, iv (0 : Int32), iv (1 : Int32), iv p3, iv (0 : Int32), iv (-1 : Int32), iv (0 : Int32), iv x0] [(.int (1 : Int32))])) _
        refine XS.ineg X0.here hx rfl (hb hby d8_70) rfl ?_
        show Steps p.tables e below (s₁.setTop (mkF m 71 #[rv r0, iv (0 : Int32), iv (1 : Int32), iv p3, iv (0 : Int32), iv (-1 : Int32), iv (0 : Int32), iv x0] [(.int (-(1 : Int32)))])) _
        rw [show (-(1 : Int32)) = (-1 : Int32) from (by decide)]
        exact kt
      obtain ⟨fs, hr, hrun, hended, hW, hsame⟩ := X0.leave (v := some (.int (-1 : Int32))) (fun h => by rw [Bd.returns] at h; cases h)
      refine ⟨_, _, pre5 _ ?_, hrun, hended, _, _, rfl, ?_, ⟨_, rfl⟩, hW, hsame.mono (by decide) (by decide)⟩
      · show Steps p.tables e below (s₁.setTop (mkF m 71 #[rv r0, iv (0 : Int32), iv (1 : Int32), iv p3, iv (0 : Int32), iv (-1 : Int32), iv (0 : Int32), iv x0] [(.int (-1 : Int32))])) _
        exact retI X0 hx Bd.returns (hb hby d8_71) hr
      · show Q8c1 Z r0 p3 kc x0 x1 x2 x3 h0 n0 _ s₁.heap _
        rw [e0]
        exact ⟨congrArg (fun z => some (Value.int z)) ((if_neg hc33).trans ((if_pos hc48).trans rfl)).symm, N0, rfl⟩
    · have pre6 : ∀ t, Steps p.tables e below (s₁.setTop (mkF m 62 #[rv r0, iv (0 : Int32), iv (1 : Int32), iv p3, iv (0 : Int32), iv (0 : Int32), iv (0 : Int32), iv x0] [(.int (0 : Int32))])) t → Steps p.tables e below (s₁.setTop (entryFrame m #[(.ref r0), (.int (0 : Int32)), (.int (1 : Int32)), (.int p3)] 8)) t := by
        intro t kt
        refine pre4 _ ?_
        show Steps p.tables e below (s₁.setTop (mkF m 48 #[rv r0, iv (0 : Int32), iv (1 : Int32), iv p3, iv (0 : Int32), iv (0 : Int32), iv (0 : Int32), iv x0] [(.int p3), (.int x0)])) _
        refine XS.icmpYes X0.here hx rfl (pc0 := 48) (pc' := 60) rfl (hb hby d8_48) rfl (flt hc48).2.2.2 (by decide) (by decide) ?_
        refine XS.iload X0.here hx rfl (hb hby d8_60) rfl ?_
        exact kt
      obtain ⟨fs, hr, hrun, hended, hW, hsame⟩ := X0.leave (v := some (.int (0 : Int32))) (fun h => by rw [Bd.returns] at h; cases h)
      refine ⟨_, _, pre6 _ ?_, hrun, hended, _, _, rfl, ?_, ⟨_, rfl⟩, hW, hsame.mono (by decide) (by decide)⟩
      · show Steps p.tables e below (s₁.setTop (mkF m 62 #[rv r0, iv (0 : Int32), iv (1 : Int32), iv p3, iv (0 : Int32), iv (0 : Int32), iv (0 : Int32), iv x0] [(.int (0 : Int32))])) _
        exact retI X0 hx Bd.returns (hb hby d8_62) hr
      · show Q8c1 Z r0 p3 kc x0 x1 x2 x3 h0 n0 _ s₁.heap _
        rw [e0]
        exact ⟨congrArg (fun z => some (Value.int z)) ((if_neg hc33).trans ((if_neg hc48).trans rfl)).symm, N0, rfl⟩

theorem ef_6c1 (m : MethodId) (x0 : Addr) (x1 : Int32) (x2 : Int32) (x3 : Int32) : entryFrame m #[(.ref x0), (.int x1), (.int x2), (.int x3)] 4 = mkF m 0 #[.val (.ref x0), .val (.int x1), .val (.int x2), .val (.int x3)] [] := by first | (simp [entryFrame, mkF, argsToLocals, Value.category]; done) | rfl
def Q6c1 (Z : State) (r0 : Addr) (p3 : Int32) (kc : ClassId) (x0 : Int32) (x1 : Int32) (x2 : Int32) (x3 : Int32) (h0 : Heap) (n0 : Nat) (v : Option Value) (h : Heap) (L : List Loc) : Prop := v = some (.int (own_bs1 p3 x0 x1 x2 x3)) ∧ Fr n0 L ∧ h = h0
set_option maxRecDepth 65536 in
set_option maxHeartbeats 40000000 in
theorem rm6c1 (l : Launch) (Z : State) (a0 : Array Value) (hw : ∀ d ∈ tables_1, d.before a0 Z = true) (ws : List Jvm.Cond) (r0 : Addr) (p3 : Int32) (kc : ClassId) (x0 : Int32) (x1 : Int32) (x2 : Int32) (x3 : Int32) (h0 : Heap) (n0 : Nat) (Z0 : n0 ≤ h0.size) (V_r0 : Arv Z h0 r0 kc .int (16 : Int32) [(.int x0), (.int x1), (.int x2), (.int x3), (.int (0 : Int32)), (.int (0 : Int32)), (.int (0 : Int32)), (.int (0 : Int32)), (.int (0 : Int32)), (.int (0 : Int32)), (.int (0 : Int32)), (.int (0 : Int32)), (.int (0 : Int32)), (.int (0 : Int32)), (.int (0 : Int32)), (.int (0 : Int32))] (.int (0 : Int32))) :
    MetFree l (⟨"java/util/Arrays", "binarySearch", "([IIII)I"⟩ : MethodName) (head1 (Jvm.Cond.code (⟨"java/util/Arrays", "binarySearch", "([IIII)I"⟩ : MethodName) jdk_65_method_58_code 4 (some .int) :: ws) ({ frames := 1, cells := 0, slots := 0, locals := 19 } : Room)) (fun a U => a = #[(.ref r0), (.int (0 : Int32)), (.int (1 : Int32)), (.int p3)] ∧ Z.Warmed39 U.vm ∧ U.heap = h0) (fun _ _ _ _ _ => True) (fun _ U o U' => ∃ v L, o = .returned v ∧ Q6c1 Z r0 p3 kc x0 x1 x2 x3 h0 n0 v U'.heap L ∧ FrameEnd U o U' L ({ frames := 1, cells := 0, slots := 0, locals := 19 } : Room).cells ({ frames := 1, cells := 0, slots := 0, locals := 19 } : Room).slots) := by
  refine MetFree.of_bodySF (plainFor_of_name pn1) hisR ?_
  intro p e s m args below meth c s₁ Bd hml0 hP hK
  obtain ⟨rfl, hZ, hh⟩ := hP
  have hx := Bd.exec
  have hby := Bd.bytes
  have hml : c.maxLocals = 4 := hml0
  have hown : s.vm.findClass "java/util/Arrays" = some m.cls := findClass_of_methodNamed Bd.named
  have hnm := (name_of_methodNamed Bd.named Bd.method).1
  have X0 : Stand p l e ({ frames := 1, cells := 0, slots := 0, locals := 19 } : Room) s m #[(.ref r0), (.int (0 : Int32)), (.int (1 : Int32)), (.int p3)] below meth c s₁ [] 0 0 := Stand.of_body Bd
  have e0 : s₁.heap = h0 := by rw [← hh, Bd.state]; rfl
  have N0 := Fr.nil n0
  have pre0 : ∀ t, Steps p.tables e below (s₁.setTop (mkF m 0 #[rv r0, iv (0 : Int32), iv (1 : Int32), iv p3] [])) t → Steps p.tables e below (s₁.setTop (entryFrame m #[(.ref r0), (.int (0 : Int32)), (.int (1 : Int32)), (.int p3)] 4)) t := fun t k => castTop (ef_6c1 m r0 (0 : Int32) (1 : Int32) p3) k
  obtain ⟨cl1, Ar1, -, S1, M1, -, -⟩ := id V_r0
  have pre2 : ∀ t, Steps p.tables e below (s₁.setTop (mkF m 4 #[rv r0, iv (0 : Int32), iv (1 : Int32), iv p3] [(.int (1 : Int32)), (.int (0 : Int32)), (.int (16 : Int32))])) t → Steps p.tables e below (s₁.setTop (entryFrame m #[(.ref r0), (.int (0 : Int32)), (.int (1 : Int32)), (.int p3)] 4)) t := by
    intro t kt
    refine pre0 _ ?_
    show Steps p.tables e below (s₁.setTop (mkF m 0 #[rv r0, iv (0 : Int32), iv (1 : Int32), iv p3] [])) _
    refine XS.aloadN X0.here hx rfl (hb hby d6_0) rfl rfl ?_
    refine X0.arraylength hx (by rw [e0]; exact Ar1.1) (State.isArrayOf_alike hZ.alike Ar1.2.1) (g := (mkF m 1 #[rv r0, iv (0 : Int32), iv (1 : Int32), iv p3] [(.ref r0)])) rfl rfl (hb hby d6_1) _ ?_
    rw [len_of S1 M1]
    show Steps p.tables e below (s₁.setTop (mkF m 2 #[rv r0, iv (0 : Int32), iv (1 : Int32), iv p3] [(.int (16 : Int32))])) _
    refine XS.iloadN X0.here hx rfl (hb hby d6_2) rfl ?_
    refine XS.iloadN X0.here hx rfl (hb hby d6_3) rfl ?_
    exact kt
  obtain ⟨_, _, ⟨T3, L3, k3, n3⟩, -, X3, ⟨Lc3, hQ3, l3, y3, z3⟩, st3⟩ := Jvm.LawKit.callS X0 hx (y := (⟨"java/util/Arrays", "rangeCheck", "(III)V"⟩ : MethodName)) hown (mvT hZ (hw _ (List.mem_of_getElem? (i := 34) rfl))) (mvT hZ (hw _ (List.mem_of_getElem? (i := 35) rfl))) (mvT hZ (hw _ (List.mem_of_getElem? (i := 32) rfl))) (mvT hZ (hw _ (List.mem_of_getElem? (i := 36) rfl))) (by decide) (backOf (W := 0) (rm7c1 l Z a0 hw []  h0 n0 (Nat.le_trans Z0 (Keep.refl h0 []).1)) hZ (hw _ (List.mem_of_getElem? (i := 36) rfl)) (hw _ (List.mem_of_getElem? (i := 32) rfl)) (by decide) (by decide)) (g := (mkF m 4 #[rv r0, iv (0 : Int32), iv (1 : Int32), iv p3] [(.int (1 : Int32)), (.int (0 : Int32)), (.int (16 : Int32))])) rfl (by rw [hml]; rfl) (argsL := [(.int (16 : Int32)), (.int (0 : Int32)), (.int (1 : Int32))]) (rest := []) (lenOf pd2 rfl) rfl (by show 2 * 0 + _ ≤ _; exact Nat.le_of_eq rfl) (hb hby d6_4) (fun _ _ => ⟨rfl, e0, (by decide : 0 + 0 ≤ _), (by decide : 0 + 0 ≤ _)⟩)
  dsimp only [Pt.U, Pt.locs, Pt.cells, Pt.slots] at X3 l3 y3 z3 st3 hQ3
  subst l3 y3 z3
  obtain ⟨rfl, N3q, hh3⟩ := hQ3
  have N3 := Fr.app N0 N3q
  have pre4 : ∀ t, Steps p.tables e below (T3.setTop (mkF m 11 #[rv r0, iv (0 : Int32), iv (1 : Int32), iv p3] [(.int p3), (.int (1 : Int32)), (.int (0 : Int32)), (.ref r0)])) t → Steps p.tables e below (s₁.setTop (entryFrame m #[(.ref r0), (.int (0 : Int32)), (.int (1 : Int32)), (.int p3)] 4)) t := by
    intro t kt
    refine pre2 _ ?_
    show Steps p.tables e below (s₁.setTop (mkF m 4 #[rv r0, iv (0 : Int32), iv (1 : Int32), iv p3] [(.int (1 : Int32)), (.int (0 : Int32)), (.int (16 : Int32))])) _
    refine st3 _ ?_
    show Steps p.tables e below (T3.setTop (mkF m 7 #[rv r0, iv (0 : Int32), iv (1 : Int32), iv p3] [])) _
    refine XS.aloadN X3.here hx rfl (hb hby d6_7) rfl rfl ?_
    refine XS.iloadN X3.here hx rfl (hb hby d6_8) rfl ?_
    refine XS.iloadN X3.here hx rfl (hb hby d6_9) rfl ?_
    refine XS.iloadN X3.here hx rfl (hb hby d6_10) rfl ?_
    exact kt
  obtain ⟨_, _, ⟨T5, L5, k5, n5⟩, -, X5, ⟨Lc5, hQ5, l5, y5, z5⟩, st5⟩ := Jvm.LawKit.callS X3 hx (y := (⟨"java/util/Arrays", "binarySearch0", "([IIII)I"⟩ : MethodName)) hown (mvT hZ (hw _ (List.mem_of_getElem? (i := 37) rfl))) (mvT hZ (hw _ (List.mem_of_getElem? (i := 38) rfl))) (mvT hZ (hw _ (List.mem_of_getElem? (i := 32) rfl))) (mvT hZ (hw _ (List.mem_of_getElem? (i := 39) rfl))) (by decide) (backOf (W := 0) (rm8c1 l Z a0 hw [] r0 p3 kc x0 x1 x2 x3 h0 n0 (Nat.le_trans Z0 (Keep.refl h0 []).1) V_r0) hZ (hw _ (List.mem_of_getElem? (i := 39) rfl)) (hw _ (List.mem_of_getElem? (i := 32) rfl)) (by decide) (by decide)) (g := (mkF m 11 #[rv r0, iv (0 : Int32), iv (1 : Int32), iv p3] [(.int p3), (.int (1 : Int32)), (.int (0 : Int32)), (.ref r0)])) rfl (by rw [hml]; rfl) (argsL := [(.ref r0), (.int (0 : Int32)), (.int (1 : Int32)), (.int p3)]) (rest := []) (lenOf pd3 rfl) rfl (by show 2 * 0 + _ ≤ _; exact Nat.le_of_eq rfl) (hb hby d6_11) (fun _ _ => ⟨rfl, hh3, (by decide : 0 + 0 ≤ _), (by decide : 0 + 0 ≤ _)⟩)
  dsimp only [Pt.U, Pt.locs, Pt.cells, Pt.slots] at X5 l5 y5 z5 st5 hQ5
  subst l5 y5 z5
  obtain ⟨rfl, N5q, hh5⟩ := hQ5
  have N5 := Fr.app N3 N5q
  have pre6 : ∀ t, Steps p.tables e below (T5.setTop (mkF m 14 #[rv r0, iv (0 : Int32), iv (1 : Int32), iv p3] [(.int (own_bs1 p3 x0 x1 x2 x3))])) t → Steps p.tables e below (s₁.setTop (entryFrame m #[(.ref r0), (.int (0 : Int32)), (.int (1 : Int32)), (.int p3)] 4)) t := by
    intro t kt
    refine pre4 _ ?_
    show Steps p.tables e below (T3.setTop (mkF m 11 #[rv r0, iv (0 : Int32), iv (1 : Int32), iv p3] [(.int p3), (.int (1 : Int32)), (.int (0 : Int32)), (.ref r0)])) _
    refine st5 _ ?_
    exact kt
  obtain ⟨fs, hr, hrun, hended, hW, hsame⟩ := X5.leave (v := some (.int (own_bs1 p3 x0 x1 x2 x3))) (fun h => by rw [Bd.returns] at h; cases h)
  refine ⟨_, _, pre6 _ ?_, hrun, hended, _, _, rfl, ?_, ⟨_, rfl⟩, hW, hsame.mono (by decide) (by decide)⟩
  · show Steps p.tables e below (T5.setTop (mkF m 14 #[rv r0, iv (0 : Int32), iv (1 : Int32), iv p3] [(.int (own_bs1 p3 x0 x1 x2 x3))])) _
    exact retI X5 hx Bd.returns (hb hby d6_14) hr
  · show Q6c1 Z r0 p3 kc x0 x1 x2 x3 h0 n0 _ T5.heap _
    rw [hh5]
    exact ⟨rfl, N5, rfl⟩
def own_ix1 (key : Int32) (x0 : Int32) (x1 : Int32) (x2 : Int32) (x3 : Int32) : Int32 := if (own_bs1 key x0 x1 x2 x3) < (0 : Int32) then (-1) else (own_bs1 key x0 x1 x2 x3)

theorem ef_5c1 (m : MethodId) (x0 : Addr) (x1 : Int32) (x2 : Int32) : entryFrame m #[(.ref x0), (.int x1), (.int x2)] 6 = mkF m 0 #[.val (.ref x0), .val (.int x1), .val (.int x2), .unset, .unset, .unset] [] := by first | (simp [entryFrame, mkF, argsToLocals, Value.category]; done) | rfl
def Q5c1 (Z : State) (r0 : Addr) (p1 : Int32) (p2 : Int32) (ab : Addr) (kc : ClassId) (x0 : Int32) (x1 : Int32) (x2 : Int32) (x3 : Int32) (key : Int32) (h0 : Heap) (n0 : Nat) (v : Option Value) (h : Heap) (L : List Loc) : Prop := v = some (.int (own_ix1 key x0 x1 x2 x3)) ∧ Fr n0 L ∧ h = h0
set_option maxRecDepth 65536 in
set_option maxHeartbeats 40000000 in
theorem rm5c1 (l : Launch) (Z : State) (a0 : Array Value) (hw : ∀ d ∈ tables_1, d.before a0 Z = true) (ws : List Jvm.Cond) (r0 : Addr) (p1 : Int32) (p2 : Int32) (ab : Addr) (kc : ClassId) (x0 : Int32) (x1 : Int32) (x2 : Int32) (x3 : Int32) (key : Int32) (h0 : Heap) (n0 : Nat) (Z0 : n0 ≤ h0.size) (F_offsets_r0 : Fld Z h0 r0 "com/example/bytewright/bytewright/grid/ObjectStarts" "offsets" "[I" (.ref ab)) (F_count_r0 : Fld Z h0 r0 "com/example/bytewright/bytewright/grid/ObjectStarts" "count" "I" (.int (1 : Int32))) (E_r0 : Exa Z h0 r0 "com/example/bytewright/bytewright/grid/ObjectStarts") (V_ab : Arv Z h0 ab kc .int (16 : Int32) [(.int x0), (.int x1), (.int x2), (.int x3), (.int (0 : Int32)), (.int (0 : Int32)), (.int (0 : Int32)), (.int (0 : Int32)), (.int (0 : Int32)), (.int (0 : Int32)), (.int (0 : Int32)), (.int (0 : Int32)), (.int (0 : Int32)), (.int (0 : Int32)), (.int (0 : Int32)), (.int (0 : Int32))] (.int (0 : Int32))) (hne : r0 ≠ ab) (hkey : (p1.toInt64 - p2.toInt64) = key.toInt64) (hk0 : ¬ ((lcmpW key.toInt64 (0 : Int64)) < (0 : Int32))) (hk1 : (lcmpW key.toInt64 p1.toInt64) < (0 : Int32)) :
    MetFree l (⟨"com/example/bytewright/bytewright/grid/ObjectStarts", "indexOf", "(II)I"⟩ : MethodName) (head1 (Jvm.Cond.code (⟨"com/example/bytewright/bytewright/grid/ObjectStarts", "indexOf", "(II)I"⟩ : MethodName) prog_53_method_5_code 6 (some .int) :: ws) ({ frames := 2, cells := 0, slots := 0, locals := 34 } : Room)) (fun a U => a = #[(.ref r0), (.int p1), (.int p2)] ∧ Z.Warmed39 U.vm ∧ U.heap = h0) (fun _ _ _ _ _ => True) (fun _ U o U' => ∃ v L, o = .returned v ∧ Q5c1 Z r0 p1 p2 ab kc x0 x1 x2 x3 key h0 n0 v U'.heap L ∧ FrameEnd U o U' L ({ frames := 2, cells := 0, slots := 0, locals := 34 } : Room).cells ({ frames := 2, cells := 0, slots := 0, locals := 34 } : Room).slots) := by
  refine MetFree.of_bodySF (plainFor_of_name pn0) hisR ?_
  intro p e s m args below meth c s₁ Bd hml0 hP hK
  obtain ⟨rfl, hZ, hh⟩ := hP
  have hx := Bd.exec
  have hby := Bd.bytes
  have hml : c.maxLocals = 6 := hml0
  have hown : s.vm.findClass "com/example/bytewright/bytewright/grid/ObjectStarts" = some m.cls := findClass_of_methodNamed Bd.named
  have hnm := (name_of_methodNamed Bd.named Bd.method).1
  have X0 : Stand p l e ({ frames := 2, cells := 0, slots := 0, locals := 34 } : Room) s m #[(.ref r0), (.int p1), (.int p2)] below meth c s₁ [] 0 0 := Stand.of_body Bd
  have e0 : s₁.heap = h0 := by rw [← hh, Bd.state]; rfl
  have N0 := Fr.nil n0
  have pre0 : ∀ t, Steps p.tables e below (s₁.setTop (mkF m 0 #[rv r0, iv p1, iv p2, .unset, .unset, .unset] [])) t → Steps p.tables e below (s₁.setTop (entryFrame m #[(.ref r0), (.int p1), (.int p2)] 6)) t := fun t k => castTop (ef_5c1 m r0 p1 p2) k
  have pre2 : ∀ t, Steps p.tables e below (s₁.setTop (mkF m 9 #[rv r0, iv p1, iv p2, .val (.long key.toInt64), .second, .unset] [(.int (lcmpW key.toInt64 (0 : Int64)))])) t → Steps p.tables e below (s₁.setTop (entryFrame m #[(.ref r0), (.int p1), (.int p2)] 6)) t := by
    intro t kt
    refine pre0 _ ?_
    show Steps p.tables e below (s₁.setTop (mkF m 0 #[rv r0, iv p1, iv p2, .unset, .unset, .unset] [])) _
    refine XS.iloadN X0.here hx rfl (hb hby d5_0) rfl ?_
    refine XS.i2l X0.here hx rfl (hb hby d5_1) rfl ?_
    refine XS.iloadN X0.here hx rfl (hb hby d5_2) rfl ?_
    refine XS.i2l X0.here hx rfl (hb hby d5_3) rfl ?_
    refine XS.lsub X0.here hx rfl (hb hby d5_4) rfl ?_
    show Steps p.tables e below (s₁.setTop (mkF m 5 #[rv r0, iv p1, iv p2, .unset, .unset, .unset] [(.long ((p1.toInt64) - (p2.toInt64)))])) _
    rw [show ((p1.toInt64) - (p2.toInt64)) = key.toInt64 from hkey]
    show Steps p.tables e below (s₁.setTop (mkF m 5 #[rv r0, iv p1, iv p2, .unset, .unset, .unset] [(.long key.toInt64)])) _
    refine XS.lstoreN X0.here hx rfl (hb hby d5_5) rfl (l' := #[rv r0, iv p1, iv p2, .val (.long key.toInt64), .second, .unset]) rfl ?_
    refine XS.lloadN X0.here hx rfl (hb hby d5_6) rfl ?_
    refine XS.lconst X0.here hx rfl (hb hby d5_7) ?_
    refine XS.lcmp X0.here hx rfl (hb hby d5_8) rfl ?_
    exact kt
  have hc9_1 : ¬ ((lcmpW key.toInt64 (0 : Int64)) < (0 : Int32)) := hk0
  have pre4 : ∀ t, Steps p.tables e below (s₁.setTop (mkF m 16 #[rv r0, iv p1, iv p2, .val (.long key.toInt64), .second, .unset] [(.int (lcmpW key.toInt64 (p1.toInt64)))])) t → Steps p.tables e below (s₁.setTop (entryFrame m #[(.ref r0), (.int p1), (.int p2)] 6)) t := by
    intro t kt
    refine pre2 _ ?_
    show Steps p.tables e below (s₁.setTop (mkF m 9 #[rv r0, iv p1, iv p2, .val (.long key.toInt64), .second, .unset] [(.int (lcmpW key.toInt64 (0 : Int64)))])) _
    refine XS.ifNo X0.here hx rfl (hb hby d5_9) rfl ((if0 _ _).trans (flt hc9_1).1) ?_
    refine XS.lloadN X0.here hx rfl (hb hby d5_12) rfl ?_
    refine XS.iloadN X0.here hx rfl (hb hby d5_13) rfl ?_
    refine XS.i2l X0.here hx rfl (hb hby d5_14) rfl ?_
    refine XS.lcmp X0.here hx rfl (hb hby d5_15) rfl ?_
    exact kt
  have hc16_3 : (lcmpW key.toInt64 (p1.toInt64)) < (0 : Int32) := hk1
  have pre5 : ∀ t, Steps p.tables e below (s₁.setTop (mkF m 22 #[rv r0, iv p1, iv p2, .val (.long key.toInt64), .second, .unset] [(.ref r0)])) t → Steps p.tables e below (s₁.setTop (entryFrame m #[(.ref r0), (.int p1), (.int p2)] 6)) t := by
    intro t kt
    refine pre4 _ ?_
    show Steps p.tables e below (s₁.setTop (mkF m 16 #[rv r0, iv p1, iv p2, .val (.long key.toInt64), .second, .unset] [(.int (lcmpW key.toInt64 (p1.toInt64)))])) _
    refine XS.ifYes X0.here hx rfl (pc0 := 16) (pc' := 21) rfl (hb hby d5_16) rfl ((if0 _ _).trans (tlt hc16_3).1) (by decide) (by decide) ?_
    refine XS.aloadN X0.here hx rfl (hb hby d5_21) rfl rfl ?_
    exact kt
  obtain ⟨T6, X6, e6, st6⟩ := getF X0 hx hZ hown (host := "") (Or.inl (hw _ (List.mem_of_getElem? (i := 11) rfl))) Via.refl e0 F_offsets_r0 (g := (mkF m 22 #[rv r0, iv p1, iv p2, .val (.long key.toInt64), .second, .unset] [(.ref r0)])) rfl rfl (hb hby d5_22)
  have pre7 : ∀ t, Steps p.tables e below (T6.setTop (mkF m 27 #[rv r0, iv p1, iv p2, .val (.long key.toInt64), .second, .unset] [(.ref r0), (.int (0 : Int32)), (.ref ab)])) t → Steps p.tables e below (s₁.setTop (entryFrame m #[(.ref r0), (.int p1), (.int p2)] 6)) t := by
    intro t kt
    refine pre5 _ ?_
    show Steps p.tables e below (s₁.setTop (mkF m 22 #[rv r0, iv p1, iv p2, .val (.long key.toInt64), .second, .unset] [(.ref r0)])) _
    refine st6 _ ?_
    show Steps p.tables e below (T6.setTop (mkF m 25 #[rv r0, iv p1, iv p2, .val (.long key.toInt64), .second, .unset] [(.ref ab)])) _
    refine XS.iconst X6.here hx rfl (hb hby d5_25) ?_
    refine XS.aloadN X6.here hx rfl (hb hby d5_26) rfl rfl ?_
    exact kt
  obtain ⟨T8, X8, e8, st8⟩ := getF X6 hx hZ hown (host := "") (Or.inl (hw _ (List.mem_of_getElem? (i := 18) rfl))) Via.refl e6 F_count_r0 (g := (mkF m 27 #[rv r0, iv p1, iv p2, .val (.long key.toInt64), .second, .unset] [(.ref r0), (.int (0 : Int32)), (.ref ab)])) rfl rfl (hb hby d5_27)
  have pre9 : ∀ t, Steps p.tables e below (T8.setTop (mkF m 32 #[rv r0, iv p1, iv p2, .val (.long key.toInt64), .second, .unset] [(.int key), (.int (1 : Int32)), (.int (0 : Int32)), (.ref ab)])) t → Steps p.tables e below (s₁.setTop (entryFrame m #[(.ref r0), (.int p1), (.int p2)] 6)) t := by
    intro t kt
    refine pre7 _ ?_
    show Steps p.tables e below (T6.setTop (mkF m 27 #[rv r0, iv p1, iv p2, .val (.long key.toInt64), .second, .unset] [(.ref r0), (.int (0 : Int32)), (.ref ab)])) _
    refine st8 _ ?_
    show Steps p.tables e below (T8.setTop (mkF m 30 #[rv r0, iv p1, iv p2, .val (.long key.toInt64), .second, .unset] [(.int (1 : Int32)), (.int (0 : Int32)), (.ref ab)])) _
    refine XS.lloadN X8.here hx rfl (hb hby d5_30) rfl ?_
    refine XS.l2i X8.here hx rfl (hb hby d5_31) rfl ?_
    show Steps p.tables e below (T8.setTop (mkF m 32 #[rv r0, iv p1, iv p2, .val (.long key.toInt64), .second, .unset] [(.int (key.toInt64.toInt32)), (.int (1 : Int32)), (.int (0 : Int32)), (.ref ab)])) _
    rw [show (key.toInt64.toInt32) = key from (Int32.toInt32_toInt64 key)]
    exact kt
  obtain ⟨_, _, ⟨T10, L10, k10, n10⟩, -, X10, ⟨Lc10, hQ10, l10, y10, z10⟩, st10⟩ := Jvm.LawKit.callS X8 hx (y := (⟨"java/util/Arrays", "binarySearch", "([IIII)I"⟩ : MethodName)) hown (mvT hZ (hw _ (List.mem_of_getElem? (i := 30) rfl))) (mvT hZ (hw _ (List.mem_of_getElem? (i := 31) rfl))) (mvT hZ (hw _ (List.mem_of_getElem? (i := 32) rfl))) (mvT hZ (hw _ (List.mem_of_getElem? (i := 33) rfl))) (by decide) (backOf (W := 0) (rm6c1 l Z a0 hw [] ab key kc x0 x1 x2 x3 h0 n0 (Nat.le_trans Z0 (Keep.refl h0 []).1) V_ab) hZ (hw _ (List.mem_of_getElem? (i := 33) rfl)) (hw _ (List.mem_of_getElem? (i := 32) rfl)) (by decide) (by decide)) (g := (mkF m 32 #[rv r0, iv p1, iv p2, .val (.long key.toInt64), .second, .unset] [(.int key), (.int (1 : Int32)), (.int (0 : Int32)), (.ref ab)])) rfl (by rw [hml]; rfl) (argsL := [(.ref ab), (.int (0 : Int32)), (.int (1 : Int32)), (.int key)]) (rest := []) (lenOf pd3 rfl) rfl (by show 2 * 0 + _ ≤ _; exact Nat.le_of_eq rfl) (hb hby d5_32) (fun _ _ => ⟨rfl, e8, (by decide : 0 + 0 ≤ _), (by decide : 0 + 0 ≤ _)⟩)
  dsimp only [Pt.U, Pt.locs, Pt.cells, Pt.slots] at X10 l10 y10 z10 st10 hQ10
  subst l10 y10 z10
  obtain ⟨rfl, N10q, hh10⟩ := hQ10
  have N10 := Fr.app N0 N10q
  have pre11 : ∀ t, Steps p.tables e below (T10.setTop (mkF m 39 #[rv r0, iv p1, iv p2, .val (.long key.toInt64), .second, iv (own_bs1 key x0 x1 x2 x3)] [(.int (own_bs1 key x0 x1 x2 x3))])) t → Steps p.tables e below (s₁.setTop (entryFrame m #[(.ref r0), (.int p1), (.int p2)] 6)) t := by
    intro t kt
    refine pre9 _ ?_
    show Steps p.tables e below (T8.setTop (mkF m 32 #[rv r0, iv p1, iv p2, .val (.long key.toInt64), .second, .unset] [(.int key), (.int (1 : Int32)), (.int (0 : Int32)), (.ref ab)])) _
    refine st10 _ ?_
    show Steps p.tables e below (T10.setTop (mkF m 35 #[rv r0, iv p1, iv p2, .val (.long key.toInt64), .second, .unset] [(.int (own_bs1 key x0 x1 x2 x3))])) _
    refine XS.istore X10.here hx rfl (hb hby d5_35) rfl (l' := #[rv r0, iv p1, iv p2, .val (.long key.toInt64), .second, iv (own_bs1 key x0 x1 x2 x3)]) rfl ?_
    refine XS.iload X10.here hx rfl (hb hby d5_37) rfl ?_
    exact kt
  by_cases hc39 : (own_bs1 key x0 x1 x2 x3) < (0 : Int32)
  · have pre12 : ∀ t, Steps p.tables e below (T10.setTop (mkF m 48 #[rv r0, iv p1, iv p2, .val (.long key.toInt64), .second, iv (own_bs1 key x0 x1 x2 x3)] [(.int (-1 : Int32))])) t → Steps p.tables e below (s₁.setTop (entryFrame m #[(.ref r0), (.int p1), (.int p2)] 6)) t := by
      intro t kt
      refine pre11 _ ?_
      show Steps p.tables e below (T10.setTop (mkF m 39 #[rv r0, iv p1, iv p2, .val (.long key.toInt64), .second, iv (own_bs1 key x0 x1 x2 x3)] [(.int (own_bs1 key x0 x1 x2 x3))])) _
      refine XS.ifNo X10.here hx rfl (hb hby d5_39) rfl ((if0 _ _).trans (tlt hc39).2.1) ?_
      refine XS.iconst X10.here hx rfl (hb hby d5_42) ?_
      refine XS.goto X10.here hx rfl (pc0 := 43) (pc' := 48) rfl (hb hby d5_43) (by decide) (by decide) ?_
      exact kt
    obtain ⟨fs, hr, hrun, hended, hW, hsame⟩ := X10.leave (v := some (.int (-1 : Int32))) (fun h => by rw [Bd.returns] at h; cases h)
    refine ⟨_, _, pre12 _ ?_, hrun, hended, _, _, rfl, ?_, ⟨_, rfl⟩, hW, hsame.mono (by decide) (by decide)⟩
    · show Steps p.tables e below (T10.setTop (mkF m 48 #[rv r0, iv p1, iv p2, .val (.long key.toInt64), .second, iv (own_bs1 key x0 x1 x2 x3)] [(.int (-1 : Int32))])) _
      exact retI X10 hx Bd.returns (hb hby d5_48) hr
    · show Q5c1 Z r0 p1 p2 ab kc x0 x1 x2 x3 key h0 n0 _ T10.heap _
      rw [hh10]
      exact ⟨congrArg (fun z => some (Value.int z)) ((if_pos hc39).trans rfl).symm, N10, rfl⟩
  · have pre13 : ∀ t, Steps p.tables e below (T10.setTop (mkF m 48 #[rv r0, iv p1, iv p2, .val (.long key.toInt64), .second, iv (own_bs1 key x0 x1 x2 x3)] [(.int (own_bs1 key x0 x1 x2 x3))])) t → Steps p.tables e below (s₁.setTop (entryFrame m #[(.ref r0), (.int p1), (.int p2)] 6)) t := by
      intro t kt
      refine pre11 _ ?_
      show Steps p.tables e below (T10.setTop (mkF m 39 #[rv r0, iv p1, iv p2, .val (.long key.toInt64), .second, iv (own_bs1 key x0 x1 x2 x3)] [(.int (own_bs1 key x0 x1 x2 x3))])) _
      refine XS.ifYes X10.here hx rfl (pc0 := 39) (pc' := 46) rfl (hb hby d5_39) rfl ((if0 _ _).trans (flt hc39).2.1) (by decide) (by decide) ?_
      refine XS.iload X10.here hx rfl (hb hby d5_46) rfl ?_
      exact kt
    obtain ⟨fs, hr, hrun, hended, hW, hsame⟩ := X10.leave (v := some (.int (own_bs1 key x0 x1 x2 x3))) (fun h => by rw [Bd.returns] at h; cases h)
    refine ⟨_, _, pre13 _ ?_, hrun, hended, _, _, rfl, ?_, ⟨_, rfl⟩, hW, hsame.mono (by decide) (by decide)⟩
    · show Steps p.tables e below (T10.setTop (mkF m 48 #[rv r0, iv p1, iv p2, .val (.long key.toInt64), .second, iv (own_bs1 key x0 x1 x2 x3)] [(.int (own_bs1 key x0 x1 x2 x3))])) _
      exact retI X10 hx Bd.returns (hb hby d5_48) hr
    · show Q5c1 Z r0 p1 p2 ab kc x0 x1 x2 x3 key h0 n0 _ T10.heap _
      rw [hh10]
      exact ⟨congrArg (fun z => some (Value.int z)) ((if_neg hc39).trans rfl).symm, N10, rfl⟩

theorem ef_7c2 (m : MethodId) (x0 : Int32) (x1 : Int32) (x2 : Int32) : entryFrame m #[(.int x0), (.int x1), (.int x2)] 3 = mkF m 0 #[.val (.int x0), .val (.int x1), .val (.int x2)] [] := by first | (simp [entryFrame, mkF, argsToLocals, Value.category]; done) | rfl
def Q7c2 (Z : State)  (h0 : Heap) (n0 : Nat) (v : Option Value) (h : Heap) (L : List Loc) : Prop := v = none ∧ Fr n0 L ∧ h = h0
set_option maxRecDepth 65536 in
set_option maxHeartbeats 40000000 in
theorem rm7c2 (l : Launch) (Z : State) (a0 : Array Value) (hw : ∀ d ∈ tables_1, d.before a0 Z = true) (ws : List Jvm.Cond)  (h0 : Heap) (n0 : Nat) (Z0 : n0 ≤ h0.size) :
    MetFree l (⟨"java/util/Arrays", "rangeCheck", "(III)V"⟩ : MethodName) (head1 (Jvm.Cond.code (⟨"java/util/Arrays", "rangeCheck", "(III)V"⟩ : MethodName) jdk_65_method_30_code 3 none :: ws) ({ frames := 0, cells := 0, slots := 0, locals := 0 } : Room)) (fun a U => a = #[(.int (16 : Int32)), (.int (0 : Int32)), (.int (2 : Int32))] ∧ Z.Warmed39 U.vm ∧ U.heap = h0) (fun _ _ _ _ _ => True) (fun _ U o U' => ∃ v L, o = .returned v ∧ Q7c2 Z  h0 n0 v U'.heap L ∧ FrameEnd U o U' L ({ frames := 0, cells := 0, slots := 0, locals := 0 } : Room).cells ({ frames := 0, cells := 0, slots := 0, locals := 0 } : Room).slots) := by
  refine MetFree.of_bodySF (plainFor_of_name pn1) hisR ?_
  intro p e s m args below meth c s₁ Bd hml0 hP hK
  obtain ⟨rfl, hZ, hh⟩ := hP
  have hx := Bd.exec
  have hby := Bd.bytes
  have hml : c.maxLocals = 3 := hml0
  have hown : s.vm.findClass "java/util/Arrays" = some m.cls := findClass_of_methodNamed Bd.named
  have hnm := (name_of_methodNamed Bd.named Bd.method).1
  have X0 : Stand p l e ({ frames := 0, cells := 0, slots := 0, locals := 0 } : Room) s m #[(.int (16 : Int32)), (.int (0 : Int32)), (.int (2 : Int32))] below meth c s₁ [] 0 0 := Stand.of_body Bd
  have e0 : s₁.heap = h0 := by rw [← hh, Bd.state]; rfl
  have N0 := Fr.nil n0
  have pre0 : ∀ t, Steps p.tables e below (s₁.setTop (mkF m 0 #[iv (16 : Int32), iv (0 : Int32), iv (2 : Int32)] [])) t → Steps p.tables e below (s₁.setTop (entryFrame m #[(.int (16 : Int32)), (.int (0 : Int32)), (.int (2 : Int32))] 3)) t := fun t k => castTop (ef_7c2 m (16 : Int32) (0 : Int32) (2 : Int32)) k
  have pre1 : ∀ t, Steps p.tables e below (s₁.setTop (mkF m 73 #[iv (16 : Int32), iv (0 : Int32), iv (2 : Int32)] [])) t → Steps p.tables e below (s₁.setTop (entryFrame m #[(.int (16 : Int32)), (.int (0 : Int32)), (.int (2 : Int32))] 3)) t := by
    intro t kt
    refine pre0 _ ?_
    show Steps p.tables e below (s₁.setTop (mkF m 0 #[iv (16 : Int32), iv (0 : Int32), iv (2 : Int32)] [])) _
    refine XS.iloadN X0.here hx rfl (hb hby d7_0) rfl ?_
    refine XS.iloadN X0.here hx rfl (hb hby d7_1) rfl ?_
    refine XS.icmpYes X0.here hx rfl (pc0 := 2) (pc' := 46) rfl (hb hby d7_2) rfl (flt (by decide)).2.2.2 (by decide) (by decide) ?_
    refine XS.iloadN X0.here hx rfl (hb hby d7_46) rfl ?_
    refine XS.ifYes X0.here hx rfl (pc0 := 47) (pc' := 59) rfl (hb hby d7_47) rfl ((if0 _ _).trans (flt (by decide)).2.1) (by decide) (by decide) ?_
    refine XS.iloadN X0.here hx rfl (hb hby d7_59) rfl ?_
    refine XS.iloadN X0.here hx rfl (hb hby d7_60) rfl ?_
    refine XS.icmpYes X0.here hx rfl (pc0 := 61) (pc' := 73) rfl (hb hby d7_61) rfl (flt (by decide)).2.2.2 (by decide) (by decide) ?_
    exact kt
  obtain ⟨fs, hr, hrun, hended, hW, hsame⟩ := X0.leave (v := none) (fun _ => rfl)
  refine ⟨_, _, pre1 _ ?_, hrun, hended, _, _, rfl, ?_, ⟨_, rfl⟩, hW, hsame.mono (by decide) (by decide)⟩
  · show Steps p.tables e below (s₁.setTop (mkF m 73 #[iv (16 : Int32), iv (0 : Int32), iv (2 : Int32)] [])) _
    exact X0.returnOut hx Bd.returns (hb hby d7_73) hr
  · show Q7c2 Z  h0 n0 _ s₁.heap _
    rw [e0]
    exact ⟨rfl, N0, rfl⟩
def own_bs2 (p3 : Int32) (x0 : Int32) (x1 : Int32) (x2 : Int32) (x3 : Int32) : Int32 := (if x0 < p3 then (if x1 < p3 then (-3 : Int32) else (if p3 < x1 then (-2 : Int32) else (1 : Int32))) else (if p3 < x0 then (-1 : Int32) else (0 : Int32)))

theorem ef_8c2 (m : MethodId) (x0 : Addr) (x1 : Int32) (x2 : Int32) (x3 : Int32) : entryFrame m #[(.ref x0), (.int x1), (.int x2), (.int x3)] 8 = mkF m 0 #[.val (.ref x0), .val (.int x1), .val (.int x2), .val (.int x3), .unset, .unset, .unset, .unset] [] := by first | (simp [entryFrame, mkF, argsToLocals, Value.category]; done) | rfl
def Q8c2 (Z : State) (r0 : Addr) (p3 : Int32) (kc : ClassId) (x0 : Int32) (x1 : Int32) (x2 : Int32) (x3 : Int32) (h0 : Heap) (n0 : Nat) (v : Option Value) (h : Heap) (L : List Loc) : Prop := v = some (.int (own_bs2 p3 x0 x1 x2 x3)) ∧ Fr n0 L ∧ h = h0
set_option maxRecDepth 65536 in
set_option maxHeartbeats 40000000 in
theorem rm8c2 (l : Launch) (Z : State) (a0 : Array Value) (hw : ∀ d ∈ tables_1, d.before a0 Z = true) (ws : List Jvm.Cond) (r0 : Addr) (p3 : Int32) (kc : ClassId) (x0 : Int32) (x1 : Int32) (x2 : Int32) (x3 : Int32) (h0 : Heap) (n0 : Nat) (Z0 : n0 ≤ h0.size) (V_r0 : Arv Z h0 r0 kc .int (16 : Int32) [(.int x0), (.int x1), (.int x2), (.int x3), (.int (0 : Int32)), (.int (0 : Int32)), (.int (0 : Int32)), (.int (0 : Int32)), (.int (0 : Int32)), (.int (0 : Int32)), (.int (0 : Int32)), (.int (0 : Int32)), (.int (0 : Int32)), (.int (0 : Int32)), (.int (0 : Int32)), (.int (0 : Int32))] (.int (0 : Int32))) :
    MetFree l (⟨"java/util/Arrays", "binarySearch0", "([IIII)I"⟩ : MethodName) (head1 (Jvm.Cond.code (⟨"java/util/Arrays", "binarySearch0", "([IIII)I"⟩ : MethodName) jdk_65_method_59_code 8 (some .int) :: ws) ({ frames := 0, cells := 0, slots := 0, locals := 0 } : Room)) (fun a U => a = #[(.ref r0), (.int (0 : Int32)), (.int (2 : Int32)), (.int p3)] ∧ Z.Warmed39 U.vm ∧ U.heap = h0) (fun _ _ _ _ _ => True) (fun _ U o U' => ∃ v L, o = .returned v ∧ Q8c2 Z r0 p3 kc x0 x1 x2 x3 h0 n0 v U'.heap L ∧ FrameEnd U o U' L ({ frames := 0, cells := 0, slots := 0, locals := 0 } : Room).cells ({ frames := 0, cells := 0, slots := 0, locals := 0 } : Room).slots) := by
  refine MetFree.of_bodySF (plainFor_of_name pn1) hisR ?_
  intro p e s m args below meth c s₁ Bd hml0 hP hK
  obtain ⟨rfl, hZ, hh⟩ := hP
  have hx := Bd.exec
  have hby := Bd.bytes
  have hml : c.maxLocals = 8 := hml0
  have hown : s.vm.findClass "java/util/Arrays" = some m.cls := findClass_of_methodNamed Bd.named
  have hnm := (name_of_methodNamed Bd.named Bd.method).1
  have X0 : Stand p l e ({ frames := 0, cells := 0, slots := 0, locals := 0 } : Room) s m #[(.ref r0), (.int (0 : Int32)), (.int (2 : Int32)), (.int p3)] below meth c s₁ [] 0 0 := Stand.of_body Bd
  have e0 : s₁.heap = h0 := by rw [← hh, Bd.state]; rfl
  have N0 := Fr.nil n0
  have pre0 : ∀ t, Steps p.tables e below (s₁.setTop (mkF m 0 #[rv r0, iv (0 : Int32), iv (2 : Int32), iv p3, .unset, .unset, .unset, .unset] [])) t → Steps p.tables e below (s₁.setTop (entryFrame m #[(.ref r0), (.int (0 : Int32)), (.int (2 : Int32)), (.int p3)] 8)) t := fun t k => castTop (ef_8c2 m r0 (0 : Int32) (2 : Int32) p3) k
  obtain ⟨cl1, Ar1, q1, S1, M1, H1, G1⟩ := id V_r0
  have hin1 : ¬ ((0 : Int32) < 0 ∨ cl1.slots.size ≤ ((0 : Int32)).toNatClampNeg) := inb_of S1 ⟨by decide, by decide⟩
  have hat1 : cl1.slots[((0 : Int32)).toNatClampNeg]? = some (.int x0) := H1.at hin1 rfl
  have pre2 : ∀ t, Steps p.tables e below (s₁.setTop (mkF m 33 #[rv r0, iv (0 : Int32), iv (2 : Int32), iv p3, iv (0 : Int32), iv (1 : Int32), iv (0 : Int32), iv x0] [(.int p3), (.int x0)])) t → Steps p.tables e below (s₁.setTop (entryFrame m #[(.ref r0), (.int (0 : Int32)), (.int (2 : Int32)), (.int p3)] 8)) t := by
    intro t kt
    refine pre0 _ ?_
    show Steps p.tables e below (s₁.setTop (mkF m 0 #[rv r0, iv (0 : Int32), iv (2 : Int32), iv p3, .unset, .unset, .unset, .unset] [])) _
    refine XS.iloadN X0.here hx rfl (hb hby d8_0) rfl ?_
    refine XS.istore X0.here hx rfl (hb hby d8_1) rfl (l' := #[rv r0, iv (0 : Int32), iv (2 : Int32), iv p3, iv (0 : Int32), .unset, .unset, .unset]) rfl ?_
    refine XS.iloadN X0.here hx rfl (hb hby d8_3) rfl ?_
    refine XS.iconst X0.here hx rfl (hb hby d8_4) ?_
    refine XS.isub X0.here hx rfl (hb hby d8_5) rfl ?_
    show Steps p.tables e below (s₁.setTop (mkF m 6 #[rv r0, iv (0 : Int32), iv (2 : Int32), iv p3, iv (0 : Int32), .unset, .unset, .unset] [(.int ((2 : Int32) - (1 : Int32)))])) _
    rw [show ((2 : Int32) - (1 : Int32)) = (1 : Int32) from (by decide)]
    show Steps p.tables e below (s₁.setTop (mkF m 6 #[rv r0, iv (0 : Int32), iv (2 : Int32), iv p3, iv (0 : Int32), .unset, .unset, .unset] [(.int (1 : Int32))])) _
    refine XS.istore X0.here hx rfl (hb hby d8_6) rfl (l' := #[rv r0, iv (0 : Int32), iv (2 : Int32), iv p3, iv (0 : Int32), iv (1 : Int32), .unset, .unset]) rfl ?_
    refine XS.iload X0.here hx rfl (hb hby d8_8) rfl ?_
    refine XS.iload X0.here hx rfl (hb hby d8_10) rfl ?_
    refine XS.icmpNo X0.here hx rfl (hb hby d8_12) rfl (flt (by decide)).2.2.1 ?_
    refine XS.iload X0.here hx rfl (hb hby d8_15) rfl ?_
    refine XS.iload X0.here hx rfl (hb hby d8_17) rfl ?_
    refine XS.iadd X0.here hx rfl (hb hby d8_19) rfl ?_
    show Steps p.tables e below (s₁.setTop (mkF m 20 #[rv r0, iv (0 : Int32), iv (2 : Int32), iv p3, iv (0 : Int32), iv (1 : Int32), .unset, .unset] [(.int ((0 : Int32) + (1 : Int32)))])) _
    rw [show ((0 : Int32) + (1 : Int32)) = (1 : Int32) from (by decide)]
    show Steps p.tables e below (s₁.setTop (mkF m 20 #[rv r0, iv (0 : Int32), iv (2 : Int32), iv p3, iv (0 : Int32), iv (1 : Int32), .unset, .unset] [(.int (1 : Int32))])) _
    refine XS.iconst X0.here hx rfl (hb hby d8_20) ?_
    refine XS.iushr X0.here hx rfl (hb hby d8_21) rfl ?_
    show Steps p.tables e below (s₁.setTop (mkF m 22 #[rv r0, iv (0 : Int32), iv (2 : Int32), iv p3, iv (0 : Int32), iv (1 : Int32), .unset, .unset] [(.int (((1 : Int32).toUInt32 >>> ((1 : Int32) &&& 31).toUInt32).toInt32))])) _
    rw [show (((1 : Int32).toUInt32 >>> ((1 : Int32) &&& 31).toUInt32).toInt32) = (0 : Int32) from (by decide)]
    show Steps p.tables e below (s₁.setTop (mkF m 22 #[rv r0, iv (0 : Int32), iv (2 : Int32), iv p3, iv (0 : Int32), iv (1 : Int32), .unset, .unset] [(.int (0 : Int32))])) _
    refine XS.istore X0.here hx rfl (hb hby d8_22) rfl (l' := #[rv r0, iv (0 : Int32), iv (2 : Int32), iv p3, iv (0 : Int32), iv (1 : Int32), iv (0 : Int32), .unset]) rfl ?_
    refine XS.aloadN X0.here hx rfl (hb hby d8_24) rfl rfl ?_
    refine XS.iload X0.here hx rfl (hb hby d8_25) rfl ?_
    refine X0.iaload hx (j := (0 : Int32)) (v := (.int x0)) (by rw [e0]; exact Ar1.1) (State.isArrayOf_alike hZ.alike Ar1.2.1) Ar1.2.2 hin1 hat1 (g := (mkF m 27 #[rv r0, iv (0 : Int32), iv (2 : Int32), iv p3, iv (0 : Int32), iv (1 : Int32), iv (0 : Int32), .unset] [(.int (0 : Int32)), (.ref r0)])) rfl rfl (hb hby d8_27) _ ?_
    show Steps p.tables e below (s₁.setTop (mkF m 28 #[rv r0, iv (0 : Int32), iv (2 : Int32), iv p3, iv (0 : Int32), iv (1 : Int32), iv (0 : Int32), .unset] [(.int x0)])) _
    refine XS.istore X0.here hx rfl (hb hby d8_28) rfl (l' := #[rv r0, iv (0 : Int32), iv (2 : Int32), iv p3, iv (0 : Int32), iv (1 : Int32), iv (0 : Int32), iv x0]) rfl ?_
    refine XS.iload X0.here hx rfl (hb hby d8_30) rfl ?_
    refine XS.iloadN X0.here hx rfl (hb hby d8_32) rfl ?_
    exact kt
  by_cases hc33 : x0 < p3
  · obtain ⟨cl3, Ar3, q3, S3, M3, H3, G3⟩ := id V_r0
    have hin3 : ¬ ((1 : Int32) < 0 ∨ cl3.slots.size ≤ ((1 : Int32)).toNatClampNeg) := inb_of S3 ⟨by decide, by decide⟩
    have hat3 : cl3.slots[((1 : Int32)).toNatClampNeg]? = some (.int x1) := H3.at hin3 rfl
    have pre4 : ∀ t, Steps p.tables e below (s₁.setTop (mkF m 33 #[rv r0, iv (0 : Int32), iv (2 : Int32), iv p3, iv (1 : Int32), iv (1 : Int32), iv (1 : Int32), iv x1] [(.int p3), (.int x1)])) t → Steps p.tables e below (s₁.setTop (entryFrame m #[(.ref r0), (.int (0 : Int32)), (.int (2 : Int32)), (.int p3)] 8)) t := by
      intro t kt
      refine pre2 _ ?_
      show Steps p.tables e below (s₁.setTop (mkF m 33 #[rv r0, iv (0 : Int32), iv (2 : Int32), iv p3, iv (0 : Int32), iv (1 : Int32), iv (0 : Int32), iv x0] [(.int p3), (.int x0)])) _
      refine XS.icmpNo X0.here hx rfl (hb hby d8_33) rfl (tlt hc33).2.1 ?_
      refine XS.iload X0.here hx rfl (hb hby d8_36) rfl ?_
      refine XS.iconst X0.here hx rfl (hb hby d8_38) ?_
      refine XS.iadd X0.here hx rfl (hb hby d8_39) rfl ?_
      show Steps p.tables e below (s₁.setTop (mkF m 40 #[rv r0, iv (0 : Int32), iv (2 : Int32), iv p3, iv (0 : Int32), iv (1 : Int32), iv (0 : Int32), iv x0] [(.int ((0 : Int32) + (1 : Int32)))])) _
      rw [show ((0 : Int32) + (1 : Int32)) = (1 : Int32) from (by decide)]
      show Steps p.tables e below (s₁.setTop (mkF m 40 #[rv r0, iv (0 : Int32), iv (2 : Int32), iv p3, iv (0 : Int32), iv (1 : Int32), iv (0 : Int32), iv x0] [(.int (1 : Int32))])) _
      refine XS.istore X0.here hx rfl (hb hby d8_40) rfl (l' := #[rv r0, iv (0 : Int32), iv (2 : Int32), iv p3, iv (1 : Int32), iv (1 : Int32), iv (0 : Int32), iv x0]) rfl ?_
      refine XS.goto X0.here hx rfl (pc0 := 42) (pc' := 63) rfl (hb hby d8_42) (by decide) (by decide) ?_
      refine XS.goto X0.here hx rfl (pc0 := 63) (pc' := 8) rfl (hb hby d8_63) (by decide) (by decide) ?_
      refine XS.iload X0.here hx rfl (hb hby d8_8) rfl ?_
      refine XS.iload X0.here hx rfl (hb hby d8_10) rfl ?_
      refine XS.icmpNo X0.here hx rfl (hb hby d8_12) rfl (flt (by decide)).2.2.1 ?_
      refine XS.iload X0.here hx rfl (hb hby d8_15) rfl ?_
      refine XS.iload X0.here hx rfl (hb hby d8_17) rfl ?_
      show Steps p.tables e below (s₁.setTop (mkF m 19 #[rv r0, iv (0 : Int32), iv (2 : Int32), iv p3, iv (1 : Int32), iv (1 : Int32), iv (0 : Int32), iv x0] [(.int (1 : Int32)), (.int (1 : Int32))])) _
      refine XS.iadd X0.here hx rfl (hb hby d8_19) rfl ?_
      show Steps p.tables e below (s₁.setTop (mkF m 20 #[rv r0, iv (0 : Int32), iv (2 : Int32), iv p3, iv (1 : Int32), iv (1 : Int32), iv (0 : Int32), iv x0] [(.int ((1 : Int32) + (1 : Int32)))])) _
      rw [show ((1 : Int32) + (1 : Int32)) = (2 : Int32) from (by decide)]
      show Steps p.tables e below (s₁.setTop (mkF m 20 #[rv r0, iv (0 : Int32), iv (2 : Int32), iv p3, iv (1 : Int32), iv (1 : Int32), iv (0 : Int32), iv x0] [(.int (2 : Int32))])) _
      refine XS.iconst X0.here hx rfl (hb hby d8_20) ?_
      refine XS.iushr X0.here hx rfl (hb hby d8_21) rfl ?_
      show Steps p.tables e below (s₁.setTop (mkF m 22 #[rv r0, iv (0 : Int32), iv (2 : Int32), iv p3, iv (1 : Int32), iv (1 : Int32), iv (0 : Int32), iv x0] [(.int (((2 : Int32).toUInt32 >>> ((1 : Int32) &&& 31).toUInt32).toInt32))])) _
      rw [show (((2 : Int32).toUInt32 >>> ((1 : Int32) &&& 31).toUInt32).toInt32) = (1 : Int32) from (by decide)]
      show Steps p.tables e below (s₁.setTop (mkF m 22 #[rv r0, iv (0 : Int32), iv (2 : Int32), iv p3, iv (1 : Int32), iv (1 : Int32), iv (0 : Int32), iv x0] [(.int (1 : Int32))])) _
      refine XS.istore X0.here hx rfl (hb hby d8_22) rfl (l' := #[rv r0, iv (0 : Int32), iv (2 : Int32), iv p3, iv (1 : Int32), iv (1 : Int32), iv (1 : Int32), iv x0]) rfl ?_
      refine XS.aloadN X0.here hx rfl (hb hby d8_24) rfl rfl ?_
      refine XS.iload X0.here hx rfl (hb hby d8_25) rfl ?_
      refine X0.iaload hx (j := (1 : Int32)) (v := (.int x1)) (by rw [e0]; exact Ar3.1) (State.isArrayOf_alike hZ.alike Ar3.2.1) Ar3.2.2 hin3 hat3 (g := (mkF m 27 #[rv r0, iv (0 : Int32), iv (2 : Int32), iv p3, iv (1 : Int32), iv (1 : Int32), iv (1 : Int32), iv x0] [(.int (1 : Int32)), (.ref r0)])) rfl rfl (hb hby d8_27) _ ?_
      show Steps p.tables e below (s₁.setTop (mkF m 28 #[rv r0, iv (0 : Int32), iv (2 : Int32), iv p3, iv (1 : Int32), iv (1 : Int32), iv (1 : Int32), iv x0] [(.int x1)])) _
      refine XS.istore X0.here hx rfl (hb hby d8_28) rfl (l' := #[rv r0, iv (0 : Int32), iv (2 : Int32), iv p3, iv (1 : Int32), iv (1 : Int32), iv (1 : Int32), iv x1]) rfl ?_
      refine XS.iload X0.here hx rfl (hb hby d8_30) rfl ?_
      refine XS.iloadN X0.here hx rfl (hb hby d8_32) rfl ?_
      exact kt
    by_cases hc33_5 : x1 < p3
    · have pre6 : ∀ t, Steps p.tables e below (s₁.setTop (mkF m 71 #[rv r0, iv (0 : Int32), iv (2 : Int32), iv p3, iv (2 : Int32), iv (1 : Int32), iv (1 : Int32), iv x1] [(.int (-3 : Int32))])) t → Steps p.tables e below (s₁.setTop (entryFrame m #[(.ref r0), (.int (0 : Int32)), (.int (2 : Int32)), (.int p3)] 8)) t := by
        intro t kt
        refine pre4 _ ?_
        show Steps p.tables e below (s₁.setTop (mkF m 33 #[rv r0, iv (0 : Int32), iv (2 : Int32), iv p3, iv (1 : Int32), iv (1 : Int32), iv (1 : Int32), iv x1] [(.int p3), (.int x1)])) _
        refine XS.icmpNo X0.here hx rfl (hb hby d8_33) rfl (tlt hc33_5).2.1 ?_
        refine XS.iload X0.here hx rfl (hb hby d8_36) rfl ?_
        refine XS.iconst X0.here hx rfl (hb hby d8_38) ?_
        refine XS.iadd X0.here hx rfl (hb hby d8_39) rfl ?_
        show Steps p.tables e below (s₁.setTop (mkF m 40 #[rv r0, iv (0 : Int32), iv (2 : Int32), iv p3, iv (1 : Int32), iv (1 : Int32), iv (1 : Int32), iv x1] [(.int ((1 : Int32) + (1 : Int32)))])) _
        rw [show ((1 : Int32) + (1 : Int32)) = (2 : Int32) from (by decide)]
        show Steps p.tables e below (s₁.setTop (mkF m 40 #[rv r0, iv (0 : Int32), iv (2 : Int32), iv p3, iv (1 : Int32), iv (1 : Int32), iv (1 : Int32), iv x1] [(.int (2 : Int32))])) _
        refine XS.istore X0.here hx rfl (hb hby d8_40) rfl (l' := #[rv r0, iv (0 : Int32), iv (2 : Int32), iv p3, iv (2 : Int32), iv (1 : Int32), iv (1 : Int32), iv x1]) rfl ?_
        refine XS.goto X0.here hx rfl (pc0 := 42) (pc' := 63) rfl (hb hby d8_42) (by decide) (by decide) ?_
        refine XS.goto X0.here hx rfl (pc0 := 63) (pc' := 8) rfl (hb hby d8_63) (by decide) (by decide) ?_
        refine XS.iload X0.here hx rfl (hb hby d8_8) rfl ?_
        refine XS.iload X0.here hx rfl (hb hby d8_10) rfl ?_
        refine XS.icmpYes X0.here hx rfl (pc0 := 12) (pc' := 66) rfl (hb hby d8_12) rfl (tlt (by decide)).2.2.1 (by decide) (by decide) ?_
        refine XS.iload X0.here hx rfl (hb hby d8_66) rfl ?_
        refine XS.iconst X0.here hx rfl (hb hby d8_68) ?_
        show Steps p.tables e below (s₁.setTop (mkF m 69 #[rv r0, iv (0 : Int32), iv (2 : Int32), iv p3, iv (2 : Int32), iv (1 : Int32), iv (1 : Int32), iv x1] [(.int (1 : Int32)), (.int (2 : Int32))])) _
        refine XS.iadd X0.here hx rfl (hb hby d8_69) rfl ?_
        show Steps p.tables e below (s₁.setTop (mkF m 70 #[rv r0, iv (0 : Int32), iv (2 : Int32), iv p3, iv (2 : Int32), iv (1 : Int32), iv (1 : Int32), iv x1] [(.int ((2 : Int32) + (1 : Int32)))])) _
        rw [show ((2 : Int32) + (1 : Int32)) = (3 : Int32) from (by decide)]
        show Steps p.tables e below (s₁.setTop (mkF m 70 #[rv r0, iv (0 : Int32), iv (2 : Int32), iv p3, iv (2 : Int32), iv (1 : Int32), iv (1 : Int32), iv x1] [(.int (3 : Int32))])) _
        refine XS.ineg X0.here hx rfl (hb hby d8_70) rfl ?_
        show Steps p.tables e below (s₁.setTop (mkF m 71 #[rv r0, iv (0 : Int32), iv (2 : Int32), iv p3, iv (2 : Int32), iv (1 : Int32), iv (1 : Int32), iv x1] [(.int (-(3 : Int32)))])) _
        rw [show (-(3 : Int32)) = (-3 : Int32) from (by decide)]
        exact kt
      obtain ⟨fs, hr, hrun, hended, hW, hsame⟩ := X0.leave (v := some (.int (-3 : Int32))) (fun h => by rw [Bd.returns] at h; cases h)
      refine ⟨_, _, pre6 _ ?_, hrun, hended, _, _, rfl, ?_, ⟨_, rfl⟩, hW, hsame.mono (by decide) (by decide)⟩
      · show Steps p.tables e below (s₁.setTop (mkF m 71 #[rv r0, iv (0 : Int32), iv (2 : Int32), iv p3, iv (2 : Int32), iv (1 : Int32), iv (1 : Int32), iv x1] [(.int (-3 : Int32))])) _
        exact retI X0 hx Bd.returns (hb hby d8_71) hr
      · show Q8c2 Z r0 p3 kc x0 x1 x2 x3 h0 n0 _ s₁.heap _
        rw [e0]
        exact ⟨congrArg (fun z => some (Value.int z)) ((if_pos hc33).trans ((if_pos hc33_5).trans rfl)).symm, N0, rfl⟩
    · have pre7 : ∀ t, Steps p.tables e below (s₁.setTop (mkF m 48 #[rv r0, iv (0 : Int32), iv (2 : Int32), iv p3, iv (1 : Int32), iv (1 : Int32), iv (1 : Int32), iv x1] [(.int p3), (.int x1)])) t → Steps p.tables e below (s₁.setTop (entryFrame m #[(.ref r0), (.int (0 : Int32)), (.int (2 : Int32)), (.int p3)] 8)) t := by
        intro t kt
        refine pre4 _ ?_
        show Steps p.tables e below (s₁.setTop (mkF m 33 #[rv r0, iv (0 : Int32), iv (2 : Int32), iv p3, iv (1 : Int32), iv (1 : Int32), iv (1 : Int32), iv x1] [(.int p3), (.int x1)])) _
        refine XS.icmpYes X0.here hx rfl (pc0 := 33) (pc' := 45) rfl (hb hby d8_33) rfl (flt hc33_5).2.1 (by decide) (by decide) ?_
        refine XS.iload X0.here hx rfl (hb hby d8_45) rfl ?_
        refine XS.iloadN X0.here hx rfl (hb hby d8_47) rfl ?_
        exact kt
      by_cases hc48 : p3 < x1
      · have pre8 : ∀ t, Steps p.tables e below (s₁.setTop (mkF m 71 #[rv r0, iv (0 : Int32), iv (2 : Int32), iv p3, iv (1 : Int32), iv (0 : Int32), iv (1 : Int32), iv x1] [(.int (-2 : Int32))])) t → Steps p.tables e below (s₁.setTop (entryFrame m #[(.ref r0), (.int (0 : Int32)), (.int (2 : Int32)), (.int p3)] 8)) t := by
          intro t kt
          refine pre7 _ ?_
          show Steps p.tables e below (s₁.setTop (mkF m 48 #[rv r0, iv (0 : Int32), iv (2 : Int32), iv p3, iv (1 : Int32), iv (1 : Int32), iv (1 : Int32), iv x1] [(.int p3), (.int x1)])) _
          refine XS.icmpNo X0.here hx rfl (hb hby d8_48) rfl (tlt hc48).2.2.2 ?_
          refine XS.iload X0.here hx rfl (hb hby d8_51) rfl ?_
          refine XS.iconst X0.here hx rfl (hb hby d8_53) ?_
          refine XS.isub X0.here hx rfl (hb hby d8_54) rfl ?_
          show Steps p.tables e below (s₁.setTop (mkF m 55 #[rv r0, iv (0 : Int32), iv (2 : Int32), iv p3, iv (1 : Int32), iv (1 : Int32), iv (1 : Int32), iv x1] [(.int ((1 : Int32) - (1 : Int32)))])) _
          rw [show ((1 : Int32) - (1 : Int32)) = (0 : Int32) from (by decide)]
          show Steps p.tables e below (s₁.setTop (mkF m 55 #[rv r0, iv (0 : Int32), iv (2 : Int32), iv p3, iv (1 : Int32), iv (1 : Int32), iv (1 : Int32), iv x1] [(.int (0 : Int32))])) _
          refine XS.istore X0.here hx rfl (hb hby d8_55) rfl (l' := #[rv r0, iv (0 : Int32), iv (2 : Int32), iv p3, iv (1 : Int32), iv (0 : Int32), iv (1 : Int32), iv x1]) rfl ?_
          refine XS.goto X0.here hx rfl (pc0 := 57) (pc' := 63) rfl (hb hby d8_57) (by decide) (by decide) ?_
          refine XS.goto X0.here hx rfl (pc0 := 63) (pc' := 8) rfl (hb hby d8_63) (by decide) (by decide) ?_
          refine XS.iload X0.here hx rfl (hb hby d8_8) rfl ?_
          refine XS.iload X0.here hx rfl (hb hby d8_10) rfl ?_
          refine XS.icmpYes X0.here hx rfl (pc0 := 12) (pc' := 66) rfl (hb hby d8_12) rfl (tlt (by decide)).2.2.1 (by decide) (by decide) ?_
          refine XS.iload X0.here hx rfl (hb hby d8_66) rfl ?_
          refine XS.iconst X0.here hx rfl (hb hby d8_68) ?_
          show Steps p.tables e below (s₁.setTop (mkF m 69 #[rv r0, iv (0 : Int32), iv (2 : Int32), iv p3, iv (1 : Int32), iv (0 : Int32), iv (1 : Int32), iv x1] [(.int (1 : Int32)), (.int (1 : Int32))])) _
          refine XS.iadd X0.here hx rfl (hb hby d8_69) rfl ?_
          show Steps p.tables e below (s₁.setTop (mkF m 70 #[rv r0, iv (0 : Int32), iv (2 : Int32), iv p3, iv (1 : Int32), iv (0 : Int32), iv (1 : Int32), iv x1] [(.int ((1 : Int32) + (1 : Int32)))])) _
          rw [show ((1 : Int32) + (1 : Int32)) = (2 : Int32) from (by decide)]
          show Steps p.tables e below (s₁.setTop (mkF m 70 #[rv r0, iv (0 : Int32), iv (2 : Int32), iv p3, iv (1 : Int32), iv (0 : Int32), iv (1 : Int32), iv x1] [(.int (2 : Int32))])) _
          refine XS.ineg X0.here hx rfl (hb hby d8_70) rfl ?_
          show Steps p.tables e below (s₁.setTop (mkF m 71 #[rv r0, iv (0 : Int32), iv (2 : Int32), iv p3, iv (1 : Int32), iv (0 : Int32), iv (1 : Int32), iv x1] [(.int (-(2 : Int32)))])) _
          rw [show (-(2 : Int32)) = (-2 : Int32) from (by decide)]
          exact kt
        obtain ⟨fs, hr, hrun, hended, hW, hsame⟩ := X0.leave (v := some (.int (-2 : Int32))) (fun h => by rw [Bd.returns] at h; cases h)
        refine ⟨_, _, pre8 _ ?_, hrun, hended, _, _, rfl, ?_, ⟨_, rfl⟩, hW, hsame.mono (by decide) (by decide)⟩
        · show Steps p.tables e below (s₁.setTop (mkF m 71 #[rv r0, iv (0 : Int32), iv (2 : Int32), iv p3, iv (1 : Int32), iv (0 : Int32), iv (1 : Int32), iv x1] [(.int (-2 : Int32))])) _
          exact retI X0 hx Bd.returns (hb hby d8_71) hr
        · show Q8c2 Z r0 p3 kc x0 x1 x2 x3 h0 n0 _ s₁.heap _
          rw [e0]
          exact ⟨congrArg (fun z => some (Value.int z)) ((if_pos hc33).trans ((if_neg hc33_5).trans ((if_pos hc48).trans rfl))).symm, N0, rfl⟩
      · have pre9 : ∀ t, Steps p.tables e below (s₁.setTop (mkF m 62 #[rv r0, iv (0 : Int32), iv (2 : Int32), iv p3, iv (1 : Int32), iv (1 : Int32), iv (1 : Int32), iv x1] [(.int (1 : Int32))])) t → Steps p.tables e below (s₁.setTop (entryFrame m #[(.ref r0), (.int (0 : Int32)), (.int (2 : Int32)), (.int p3)] 8)) t := by
          intro t kt
          refine pre7 _ ?_
          show Steps p.tables e below (s₁.setTop (mkF m 48 #[rv r0, iv (0 : Int32), iv (2 : Int32), iv p3, iv (1 : Int32), iv (1 : Int32), iv (1 : Int32), iv x1] [(.int p3), (.int x1)])) _
          refine XS.icmpYes X0.here hx rfl (pc0 := 48) (pc' := 60) rfl (hb hby d8_48) rfl (flt hc48).2.2.2 (by decide) (by decide) ?_
          refine XS.iload X0.here hx rfl (hb hby d8_60) rfl ?_
          exact kt
        obtain ⟨fs, hr, hrun, hended, hW, hsame⟩ := X0.leave (v := some (.int (1 : Int32))) (fun h => by rw [Bd.returns] at h; cases h)
        refine ⟨_, _, pre9 _ ?_, hrun, hended, _, _, rfl, ?_, ⟨_, rfl⟩, hW, hsame.mono (by decide) (by decide)⟩
        · show Steps p.tables e below (s₁.setTop (mkF m 62 #[rv r0, iv (0 : Int32), iv (2 : Int32), iv p3, iv (1 : Int32), iv (1 : Int32), iv (1 : Int32), iv x1] [(.int (1 : Int32))])) _
          exact retI X0 hx Bd.returns (hb hby d8_62) hr
        · show Q8c2 Z r0 p3 kc x0 x1 x2 x3 h0 n0 _ s₁.heap _
          rw [e0]
          exact ⟨congrArg (fun z => some (Value.int z)) ((if_pos hc33).trans ((if_neg hc33_5).trans ((if_neg hc48).trans rfl))).symm, N0, rfl⟩
  · have pre10 : ∀ t, Steps p.tables e below (s₁.setTop (mkF m 48 #[rv r0, iv (0 : Int32), iv (2 : Int32), iv p3, iv (0 : Int32), iv (1 : Int32), iv (0 : Int32), iv x0] [(.int p3), (.int x0)])) t → Steps p.tables e below (s₁.setTop (entryFrame m #[(.ref r0), (.int (0 : Int32)), (.int (2 : Int32)), (.int p3)] 8)) t := by
      intro t kt
      refine pre2 _ ?_
      show Steps p.tables e below (s₁.setTop (mkF m 33 #[rv r0, iv (0 : Int32), iv (2 : Int32), iv p3, iv (0 : Int32), iv (1 : Int32), iv (0 : Int32), iv x0] [(.int p3), (.int x0)])) _
      refine XS.icmpYes X0.here hx rfl (pc0 := 33) (pc' := 45) rfl (hb hby d8_33) rfl (flt hc33).2.1 (by decide) (by decide) ?_
      refine XS.iload X0.here hx rfl (hb hby d8_45) rfl ?_
      refine XS.iloadN X0.here hx rfl (hb hby d8_47) rfl ?_
      exact kt
    by_cases hc48 : p3 < x0
    · have pre11 : ∀ t, Steps p.tables e below (s₁.setTop (mkF m 71 #[rv r0, iv (0 : Int32), iv (2 : Int32), iv p3, iv (0 : Int32), iv (-1 : Int32), iv (0 : Int32), iv x0] [(.int (-1 : Int32))])) t → Steps p.tables e below (s₁.setTop (entryFrame m #[(.ref r0), (.int (0 : Int32)), (.int (2 : Int32)), (.int p3)] 8)) t := by
        intro t kt
        refine pre10 _ ?_
        show Steps p.tables e below (s₁.setTop (mkF m 48 #[rv r0, iv (0 : Int32), iv (2 : Int32), iv p3, iv (0 : Int32), iv (1 : Int32), iv (0 : Int32), iv x0] [(.int p3), (.int x0)])) _
        refine XS.icmpNo X0.here hx rfl (hb hby d8_48) rfl (tlt hc48).2.2.2 ?_
        refine XS.iload X0.here hx rfl (hb hby d8_51) rfl ?_
        refine XS.iconst X0.here hx rfl (hb hby d8_53) ?_
        refine XS.isub X0.here hx rfl (hb hby d8_54) rfl ?_
        show Steps p.tables e below (s₁.setTop (mkF m 55 #[rv r0, iv (0 : Int32), iv (2 : Int32), iv p3, iv (0 : Int32), iv (1 : Int32), iv (0 : Int32), iv x0] [(.int ((0 : Int32) - (1 : Int32)))])) _
        rw [show ((0 : Int32) - (1 : Int32)) = (-1 : Int32) from (by decide)]
        show Steps p.tables e below (s₁.setTop (mkF m 55 #[rv r0, iv (0 : Int32), iv (2 : Int32), iv p3, iv (0 : Int32), iv (1 : Int32), iv (0 : Int32), iv x0] [(.int (-1 : Int32))])) _
        refine XS.istore X0.here hx rfl (hb hby d8_55) rfl (l' := #[rv r0, iv (0 : Int32), iv (2 : Int32), iv p3, iv (0 : Int32), iv (-1 : Int32), iv (0 : Int32), iv x0]) rfl ?_
        refine XS.goto X0.here hx rfl (pc0 := 57) (pc' := 63) rfl (hb hby d8_57) (by decide) (by decide) ?_
        refine XS.goto X0.here hx rfl (pc0 := 63) (pc' := 8) rfl (hb hby d8_63) (by decide) (by decide) ?_
        refine XS.iload X0.here hx rfl (hb hby d8_8) rfl ?_
        refine XS.iload X0.here hx rfl (hb hby d8_10) rfl ?_
        refine XS.icmpYes X0.here hx rfl (pc0 := 12) (pc' := 66) rfl (hb hby d8_12) rfl (tlt (by decide)).2.2.1 (by decide) (by decide) ?_
        refine XS.iload X0.here hx rfl (hb hby d8_66) rfl ?_
        refine XS.iconst X0.here hx rfl (hb hby d8_68) ?_
        show Steps p.tables e below (s₁.setTop (mkF m 69 #[rv r0, iv (0 : Int32), iv (2 : Int32), iv p3, iv (0 : Int32), iv (-1 : Int32), iv (0 : Int32), iv x0] [(.int (1 : Int32)), (.int (0 : Int32))])) _
        refine XS.iadd X0.here hx rfl (hb hby d8_69) rfl ?_
        show Steps p.tables e below (s₁.setTop (mkF m 70 #[rv r0, iv (0 : Int32), iv (2 : Int32), iv p3, iv (0 : Int32), iv (-1 : Int32), iv (0 : Int32), iv x0] [(.int ((0 : Int32) + (1 : Int32)))])) _
        rw [show ((0 : Int32) + (1 : Int32)) = (1 : Int32) from (by decide)]
        show Steps p.tables e below (s₁.setTop (mkF m 70 #[rv r0, iv (0 : Int32), iv (2 : Int32), iv p3, iv (0 : Int32), iv (-1 : Int32), iv (0 : Int32), iv x0] [(.int (1 : Int32))])) _
        refine XS.ineg X0.here hx rfl (hb hby d8_70) rfl ?_
        show Steps p.tables e below (s₁.setTop (mkF m 71 #[rv r0, iv (0 : Int32), iv (2 : Int32), iv p3, iv (0 : Int32), iv (-1 : Int32), iv (0 : Int32), iv x0] [(.int (-(1 : Int32)))])) _
        rw [show (-(1 : Int32)) = (-1 : Int32) from (by decide)]
        exact kt
      obtain ⟨fs, hr, hrun, hended, hW, hsame⟩ := X0.leave (v := some (.int (-1 : Int32))) (fun h => by rw [Bd.returns] at h; cases h)
      refine ⟨_, _, pre11 _ ?_, hrun, hended, _, _, rfl, ?_, ⟨_, rfl⟩, hW, hsame.mono (by decide) (by decide)⟩
      · show Steps p.tables e below (s₁.setTop (mkF m 71 #[rv r0, iv (0 : Int32), iv (2 : Int32), iv p3, iv (0 : Int32), iv (-1 : Int32), iv (0 : Int32), iv x0] [(.int (-1 : Int32))])) _
        exact retI X0 hx Bd.returns (hb hby d8_71) hr
      · show Q8c2 Z r0 p3 kc x0 x1 x2 x3 h0 n0 _ s₁.heap _
        rw [e0]
        exact ⟨congrArg (fun z => some (Value.int z)) ((if_neg hc33).trans ((if_pos hc48).trans rfl)).symm, N0, rfl⟩
    · have pre12 : ∀ t, Steps p.tables e below (s₁.setTop (mkF m 62 #[rv r0, iv (0 : Int32), iv (2 : Int32), iv p3, iv (0 : Int32), iv (1 : Int32), iv (0 : Int32), iv x0] [(.int (0 : Int32))])) t → Steps p.tables e below (s₁.setTop (entryFrame m #[(.ref r0), (.int (0 : Int32)), (.int (2 : Int32)), (.int p3)] 8)) t := by
        intro t kt
        refine pre10 _ ?_
        show Steps p.tables e below (s₁.setTop (mkF m 48 #[rv r0, iv (0 : Int32), iv (2 : Int32), iv p3, iv (0 : Int32), iv (1 : Int32), iv (0 : Int32), iv x0] [(.int p3), (.int x0)])) _
        refine XS.icmpYes X0.here hx rfl (pc0 := 48) (pc' := 60) rfl (hb hby d8_48) rfl (flt hc48).2.2.2 (by decide) (by decide) ?_
        refine XS.iload X0.here hx rfl (hb hby d8_60) rfl ?_
        exact kt
      obtain ⟨fs, hr, hrun, hended, hW, hsame⟩ := X0.leave (v := some (.int (0 : Int32))) (fun h => by rw [Bd.returns] at h; cases h)
      refine ⟨_, _, pre12 _ ?_, hrun, hended, _, _, rfl, ?_, ⟨_, rfl⟩, hW, hsame.mono (by decide) (by decide)⟩
      · show Steps p.tables e below (s₁.setTop (mkF m 62 #[rv r0, iv (0 : Int32), iv (2 : Int32), iv p3, iv (0 : Int32), iv (1 : Int32), iv (0 : Int32), iv x0] [(.int (0 : Int32))])) _
        exact retI X0 hx Bd.returns (hb hby d8_62) hr
      · show Q8c2 Z r0 p3 kc x0 x1 x2 x3 h0 n0 _ s₁.heap _
        rw [e0]
        exact ⟨congrArg (fun z => some (Value.int z)) ((if_neg hc33).trans ((if_neg hc48).trans rfl)).symm, N0, rfl⟩

theorem ef_6c2 (m : MethodId) (x0 : Addr) (x1 : Int32) (x2 : Int32) (x3 : Int32) : entryFrame m #[(.ref x0), (.int x1), (.int x2), (.int x3)] 4 = mkF m 0 #[.val (.ref x0), .val (.int x1), .val (.int x2), .val (.int x3)] [] := by first | (simp [entryFrame, mkF, argsToLocals, Value.category]; done) | rfl
def Q6c2 (Z : State) (r0 : Addr) (p3 : Int32) (kc : ClassId) (x0 : Int32) (x1 : Int32) (x2 : Int32) (x3 : Int32) (h0 : Heap) (n0 : Nat) (v : Option Value) (h : Heap) (L : List Loc) : Prop := v = some (.int (own_bs2 p3 x0 x1 x2 x3)) ∧ Fr n0 L ∧ h = h0
set_option maxRecDepth 65536 in
set_option maxHeartbeats 40000000 in
theorem rm6c2 (l : Launch) (Z : State) (a0 : Array Value) (hw : ∀ d ∈ tables_1, d.before a0 Z = true) (ws : List Jvm.Cond) (r0 : Addr) (p3 : Int32) (kc : ClassId) (x0 : Int32) (x1 : Int32) (x2 : Int32) (x3 : Int32) (h0 : Heap) (n0 : Nat) (Z0 : n0 ≤ h0.size) (V_r0 : Arv Z h0 r0 kc .int (16 : Int32) [(.int x0), (.int x1), (.int x2), (.int x3), (.int (0 : Int32)), (.int (0 : Int32)), (.int (0 : Int32)), (.int (0 : Int32)), (.int (0 : Int32)), (.int (0 : Int32)), (.int (0 : Int32)), (.int (0 : Int32)), (.int (0 : Int32)), (.int (0 : Int32)), (.int (0 : Int32)), (.int (0 : Int32))] (.int (0 : Int32))) :
    MetFree l (⟨"java/util/Arrays", "binarySearch", "([IIII)I"⟩ : MethodName) (head1 (Jvm.Cond.code (⟨"java/util/Arrays", "binarySearch", "([IIII)I"⟩ : MethodName) jdk_65_method_58_code 4 (some .int) :: ws) ({ frames := 1, cells := 0, slots := 0, locals := 19 } : Room)) (fun a U => a = #[(.ref r0), (.int (0 : Int32)), (.int (2 : Int32)), (.int p3)] ∧ Z.Warmed39 U.vm ∧ U.heap = h0) (fun _ _ _ _ _ => True) (fun _ U o U' => ∃ v L, o = .returned v ∧ Q6c2 Z r0 p3 kc x0 x1 x2 x3 h0 n0 v U'.heap L ∧ FrameEnd U o U' L ({ frames := 1, cells := 0, slots := 0, locals := 19 } : Room).cells ({ frames := 1, cells := 0, slots := 0, locals := 19 } : Room).slots) := by
  refine MetFree.of_bodySF (plainFor_of_name pn1) hisR ?_
  intro p e s m args below meth c s₁ Bd hml0 hP hK
  obtain ⟨rfl, hZ, hh⟩ := hP
  have hx := Bd.exec
  have hby := Bd.bytes
  have hml : c.maxLocals = 4 := hml0
  have hown : s.vm.findClass "java/util/Arrays" = some m.cls := findClass_of_methodNamed Bd.named
  have hnm := (name_of_methodNamed Bd.named Bd.method).1
  have X0 : Stand p l e ({ frames := 1, cells := 0, slots := 0, locals := 19 } : Room) s m #[(.ref r0), (.int (0 : Int32)), (.int (2 : Int32)), (.int p3)] below meth c s₁ [] 0 0 := Stand.of_body Bd
  have e0 : s₁.heap = h0 := by rw [← hh, Bd.state]; rfl
  have N0 := Fr.nil n0
  have pre0 : ∀ t, Steps p.tables e below (s₁.setTop (mkF m 0 #[rv r0, iv (0 : Int32), iv (2 : Int32), iv p3] [])) t → Steps p.tables e below (s₁.setTop (entryFrame m #[(.ref r0), (.int (0 : Int32)), (.int (2 : Int32)), (.int p3)] 4)) t := fun t k => castTop (ef_6c2 m r0 (0 : Int32) (2 : Int32) p3) k
  obtain ⟨cl1, Ar1, -, S1, M1, -, -⟩ := id V_r0
  have pre2 : ∀ t, Steps p.tables e below (s₁.setTop (mkF m 4 #[rv r0, iv (0 : Int32), iv (2 : Int32), iv p3] [(.int (2 : Int32)), (.int (0 : Int32)), (.int (16 : Int32))])) t → Steps p.tables e below (s₁.setTop (entryFrame m #[(.ref r0), (.int (0 : Int32)), (.int (2 : Int32)), (.int p3)] 4)) t := by
    intro t kt
    refine pre0 _ ?_
    show Steps p.tables e below (s₁.setTop (mkF m 0 #[rv r0, iv (0 : Int32), iv (2 : Int32), iv p3] [])) _
    refine XS.aloadN X0.here hx rfl (hb hby d6_0) rfl rfl ?_
    refine X0.arraylength hx (by rw [e0]; exact Ar1.1) (State.isArrayOf_alike hZ.alike Ar1.2.1) (g := (mkF m 1 #[rv r0, iv (0 : Int32), iv (2 : Int32), iv p3] [(.ref r0)])) rfl rfl (hb hby d6_1) _ ?_
    rw [len_of S1 M1]
    show Steps p.tables e below (s₁.setTop (mkF m 2 #[rv r0, iv (0 : Int32), iv (2 : Int32), iv p3] [(.int (16 : Int32))])) _
    refine XS.iloadN X0.here hx rfl (hb hby d6_2) rfl ?_
    refine XS.iloadN X0.here hx rfl (hb hby d6_3) rfl ?_
    exact kt
  obtain ⟨_, _, ⟨T3, L3, k3, n3⟩, -, X3, ⟨Lc3, hQ3, l3, y3, z3⟩, st3⟩ := Jvm.LawKit.callS X0 hx (y := (⟨"java/util/Arrays", "rangeCheck", "(III)V"⟩ : MethodName)) hown (mvT hZ (hw _ (List.mem_of_getElem? (i := 34) rfl))) (mvT hZ (hw _ (List.mem_of_getElem? (i := 35) rfl))) (mvT hZ (hw _ (List.mem_of_getElem? (i := 32) rfl))) (mvT hZ (hw _ (List.mem_of_getElem? (i := 36) rfl))) (by decide) (backOf (W := 0) (rm7c2 l Z a0 hw []  h0 n0 (Nat.le_trans Z0 (Keep.refl h0 []).1)) hZ (hw _ (List.mem_of_getElem? (i := 36) rfl)) (hw _ (List.mem_of_getElem? (i := 32) rfl)) (by decide) (by decide)) (g := (mkF m 4 #[rv r0, iv (0 : Int32), iv (2 : Int32), iv p3] [(.int (2 : Int32)), (.int (0 : Int32)), (.int (16 : Int32))])) rfl (by rw [hml]; rfl) (argsL := [(.int (16 : Int32)), (.int (0 : Int32)), (.int (2 : Int32))]) (rest := []) (lenOf pd2 rfl) rfl (by show 2 * 0 + _ ≤ _; exact Nat.le_of_eq rfl) (hb hby d6_4) (fun _ _ => ⟨rfl, e0, (by decide : 0 + 0 ≤ _), (by decide : 0 + 0 ≤ _)⟩)
  dsimp only [Pt.U, Pt.locs, Pt.cells, Pt.slots] at X3 l3 y3 z3 st3 hQ3
  subst l3 y3 z3
  obtain ⟨rfl, N3q, hh3⟩ := hQ3
  have N3 := Fr.app N0 N3q
  have pre4 : ∀ t, Steps p.tables e below (T3.setTop (mkF m 11 #[rv r0, iv (0 : Int32), iv (2 : Int32), iv p3] [(.int p3), (.int (2 : Int32)), (.int (0 : Int32)), (.ref r0)])) t → Steps p.tables e below (s₁.setTop (entryFrame m #[(.ref r0), (.int (0 : Int32)), (.int (2 : Int32)), (.int p3)] 4)) t := by
    intro t kt
    refine pre2 _ ?_
    show Steps p.tables e below (s₁.setTop (mkF m 4 #[rv r0, iv (0 : Int32), iv (2 : Int32), iv p3] [(.int (2 : Int32)), (.int (0 : Int32)), (.int (16 : Int32))])) _
    refine st3 _ ?_
    show Steps p.tables e below (T3.setTop (mkF m 7 #[rv r0, iv (0 : Int32), iv (2 : Int32), iv p3] [])) _
    refine XS.aloadN X3.here hx rfl (hb hby d6_7) rfl rfl ?_
    refine XS.iloadN X3.here hx rfl (hb hby d6_8) rfl ?_
    refine XS.iloadN X3.here hx rfl (hb hby d6_9) rfl ?_
    refine XS.iloadN X3.here hx rfl (hb hby d6_10) rfl ?_
    exact kt
  obtain ⟨_, _, ⟨T5, L5, k5, n5⟩, -, X5, ⟨Lc5, hQ5, l5, y5, z5⟩, st5⟩ := Jvm.LawKit.callS X3 hx (y := (⟨"java/util/Arrays", "binarySearch0", "([IIII)I"⟩ : MethodName)) hown (mvT hZ (hw _ (List.mem_of_getElem? (i := 37) rfl))) (mvT hZ (hw _ (List.mem_of_getElem? (i := 38) rfl))) (mvT hZ (hw _ (List.mem_of_getElem? (i := 32) rfl))) (mvT hZ (hw _ (List.mem_of_getElem? (i := 39) rfl))) (by decide) (backOf (W := 0) (rm8c2 l Z a0 hw [] r0 p3 kc x0 x1 x2 x3 h0 n0 (Nat.le_trans Z0 (Keep.refl h0 []).1) V_r0) hZ (hw _ (List.mem_of_getElem? (i := 39) rfl)) (hw _ (List.mem_of_getElem? (i := 32) rfl)) (by decide) (by decide)) (g := (mkF m 11 #[rv r0, iv (0 : Int32), iv (2 : Int32), iv p3] [(.int p3), (.int (2 : Int32)), (.int (0 : Int32)), (.ref r0)])) rfl (by rw [hml]; rfl) (argsL := [(.ref r0), (.int (0 : Int32)), (.int (2 : Int32)), (.int p3)]) (rest := []) (lenOf pd3 rfl) rfl (by show 2 * 0 + _ ≤ _; exact Nat.le_of_eq rfl) (hb hby d6_11) (fun _ _ => ⟨rfl, hh3, (by decide : 0 + 0 ≤ _), (by decide : 0 + 0 ≤ _)⟩)
  dsimp only [Pt.U, Pt.locs, Pt.cells, Pt.slots] at X5 l5 y5 z5 st5 hQ5
  subst l5 y5 z5
  obtain ⟨rfl, N5q, hh5⟩ := hQ5
  have N5 := Fr.app N3 N5q
  have pre6 : ∀ t, Steps p.tables e below (T5.setTop (mkF m 14 #[rv r0, iv (0 : Int32), iv (2 : Int32), iv p3] [(.int (own_bs2 p3 x0 x1 x2 x3))])) t → Steps p.tables e below (s₁.setTop (entryFrame m #[(.ref r0), (.int (0 : Int32)), (.int (2 : Int32)), (.int p3)] 4)) t := by
    intro t kt
    refine pre4 _ ?_
    show Steps p.tables e below (T3.setTop (mkF m 11 #[rv r0, iv (0 : Int32), iv (2 : Int32), iv p3] [(.int p3), (.int (2 : Int32)), (.int (0 : Int32)), (.ref r0)])) _
    refine st5 _ ?_
    exact kt
  obtain ⟨fs, hr, hrun, hended, hW, hsame⟩ := X5.leave (v := some (.int (own_bs2 p3 x0 x1 x2 x3))) (fun h => by rw [Bd.returns] at h; cases h)
  refine ⟨_, _, pre6 _ ?_, hrun, hended, _, _, rfl, ?_, ⟨_, rfl⟩, hW, hsame.mono (by decide) (by decide)⟩
  · show Steps p.tables e below (T5.setTop (mkF m 14 #[rv r0, iv (0 : Int32), iv (2 : Int32), iv p3] [(.int (own_bs2 p3 x0 x1 x2 x3))])) _
    exact retI X5 hx Bd.returns (hb hby d6_14) hr
  · show Q6c2 Z r0 p3 kc x0 x1 x2 x3 h0 n0 _ T5.heap _
    rw [hh5]
    exact ⟨rfl, N5, rfl⟩
def own_ix2 (key : Int32) (x0 : Int32) (x1 : Int32) (x2 : Int32) (x3 : Int32) : Int32 := if (own_bs2 key x0 x1 x2 x3) < (0 : Int32) then (-1) else (own_bs2 key x0 x1 x2 x3)

theorem ef_5c2 (m : MethodId) (x0 : Addr) (x1 : Int32) (x2 : Int32) : entryFrame m #[(.ref x0), (.int x1), (.int x2)] 6 = mkF m 0 #[.val (.ref x0), .val (.int x1), .val (.int x2), .unset, .unset, .unset] [] := by first | (simp [entryFrame, mkF, argsToLocals, Value.category]; done) | rfl
def Q5c2 (Z : State) (r0 : Addr) (p1 : Int32) (p2 : Int32) (ab : Addr) (kc : ClassId) (x0 : Int32) (x1 : Int32) (x2 : Int32) (x3 : Int32) (key : Int32) (h0 : Heap) (n0 : Nat) (v : Option Value) (h : Heap) (L : List Loc) : Prop := v = some (.int (own_ix2 key x0 x1 x2 x3)) ∧ Fr n0 L ∧ h = h0
set_option maxRecDepth 65536 in
set_option maxHeartbeats 40000000 in
theorem rm5c2 (l : Launch) (Z : State) (a0 : Array Value) (hw : ∀ d ∈ tables_1, d.before a0 Z = true) (ws : List Jvm.Cond) (r0 : Addr) (p1 : Int32) (p2 : Int32) (ab : Addr) (kc : ClassId) (x0 : Int32) (x1 : Int32) (x2 : Int32) (x3 : Int32) (key : Int32) (h0 : Heap) (n0 : Nat) (Z0 : n0 ≤ h0.size) (F_offsets_r0 : Fld Z h0 r0 "com/example/bytewright/bytewright/grid/ObjectStarts" "offsets" "[I" (.ref ab)) (F_count_r0 : Fld Z h0 r0 "com/example/bytewright/bytewright/grid/ObjectStarts" "count" "I" (.int (2 : Int32))) (E_r0 : Exa Z h0 r0 "com/example/bytewright/bytewright/grid/ObjectStarts") (V_ab : Arv Z h0 ab kc .int (16 : Int32) [(.int x0), (.int x1), (.int x2), (.int x3), (.int (0 : Int32)), (.int (0 : Int32)), (.int (0 : Int32)), (.int (0 : Int32)), (.int (0 : Int32)), (.int (0 : Int32)), (.int (0 : Int32)), (.int (0 : Int32)), (.int (0 : Int32)), (.int (0 : Int32)), (.int (0 : Int32)), (.int (0 : Int32))] (.int (0 : Int32))) (hne : r0 ≠ ab) (hkey : (p1.toInt64 - p2.toInt64) = key.toInt64) (hk0 : ¬ ((lcmpW key.toInt64 (0 : Int64)) < (0 : Int32))) (hk1 : (lcmpW key.toInt64 p1.toInt64) < (0 : Int32)) :
    MetFree l (⟨"com/example/bytewright/bytewright/grid/ObjectStarts", "indexOf", "(II)I"⟩ : MethodName) (head1 (Jvm.Cond.code (⟨"com/example/bytewright/bytewright/grid/ObjectStarts", "indexOf", "(II)I"⟩ : MethodName) prog_53_method_5_code 6 (some .int) :: ws) ({ frames := 2, cells := 0, slots := 0, locals := 34 } : Room)) (fun a U => a = #[(.ref r0), (.int p1), (.int p2)] ∧ Z.Warmed39 U.vm ∧ U.heap = h0) (fun _ _ _ _ _ => True) (fun _ U o U' => ∃ v L, o = .returned v ∧ Q5c2 Z r0 p1 p2 ab kc x0 x1 x2 x3 key h0 n0 v U'.heap L ∧ FrameEnd U o U' L ({ frames := 2, cells := 0, slots := 0, locals := 34 } : Room).cells ({ frames := 2, cells := 0, slots := 0, locals := 34 } : Room).slots) := by
  refine MetFree.of_bodySF (plainFor_of_name pn0) hisR ?_
  intro p e s m args below meth c s₁ Bd hml0 hP hK
  obtain ⟨rfl, hZ, hh⟩ := hP
  have hx := Bd.exec
  have hby := Bd.bytes
  have hml : c.maxLocals = 6 := hml0
  have hown : s.vm.findClass "com/example/bytewright/bytewright/grid/ObjectStarts" = some m.cls := findClass_of_methodNamed Bd.named
  have hnm := (name_of_methodNamed Bd.named Bd.method).1
  have X0 : Stand p l e ({ frames := 2, cells := 0, slots := 0, locals := 34 } : Room) s m #[(.ref r0), (.int p1), (.int p2)] below meth c s₁ [] 0 0 := Stand.of_body Bd
  have e0 : s₁.heap = h0 := by rw [← hh, Bd.state]; rfl
  have N0 := Fr.nil n0
  have pre0 : ∀ t, Steps p.tables e below (s₁.setTop (mkF m 0 #[rv r0, iv p1, iv p2, .unset, .unset, .unset] [])) t → Steps p.tables e below (s₁.setTop (entryFrame m #[(.ref r0), (.int p1), (.int p2)] 6)) t := fun t k => castTop (ef_5c2 m r0 p1 p2) k
  have pre2 : ∀ t, Steps p.tables e below (s₁.setTop (mkF m 9 #[rv r0, iv p1, iv p2, .val (.long key.toInt64), .second, .unset] [(.int (lcmpW key.toInt64 (0 : Int64)))])) t → Steps p.tables e below (s₁.setTop (entryFrame m #[(.ref r0), (.int p1), (.int p2)] 6)) t := by
    intro t kt
    refine pre0 _ ?_
    show Steps p.tables e below (s₁.setTop (mkF m 0 #[rv r0, iv p1, iv p2, .unset, .unset, .unset] [])) _
    refine XS.iloadN X0.here hx rfl (hb hby d5_0) rfl ?_
    refine XS.i2l X0.here hx rfl (hb hby d5_1) rfl ?_
    refine XS.iloadN X0.here hx rfl (hb hby d5_2) rfl ?_
    refine XS.i2l X0.here hx rfl (hb hby d5_3) rfl ?_
    refine XS.lsub X0.here hx rfl (hb hby d5_4) rfl ?_
    show Steps p.tables e below (s₁.setTop (mkF m 5 #[rv r0, iv p1, iv p2, .unset, .unset, .unset] [(.long ((p1.toInt64) - (p2.toInt64)))])) _
    rw [show ((p1.toInt64) - (p2.toInt64)) = key.toInt64 from hkey]
    show Steps p.tables e below (s₁.setTop (mkF m 5 #[rv r0, iv p1, iv p2, .unset, .unset, .unset] [(.long key.toInt64)])) _
    refine XS.lstoreN X0.here hx rfl (hb hby d5_5) rfl (l' := #[rv r0, iv p1, iv p2, .val (.long key.toInt64), .second, .unset]) rfl ?_
    refine XS.lloadN X0.here hx rfl (hb hby d5_6) rfl ?_
    refine XS.lconst X0.here hx rfl (hb hby d5_7) ?_
    refine XS.lcmp X0.here hx rfl (hb hby d5_8) rfl ?_
    exact kt
  have hc9_1 : ¬ ((lcmpW key.toInt64 (0 : Int64)) < (0 : Int32)) := hk0
  have pre4 : ∀ t, Steps p.tables e below (s₁.setTop (mkF m 16 #[rv r0, iv p1, iv p2, .val (.long key.toInt64), .second, .unset] [(.int (lcmpW key.toInt64 (p1.toInt64)))])) t → Steps p.tables e below (s₁.setTop (entryFrame m #[(.ref r0), (.int p1), (.int p2)] 6)) t := by
    intro t kt
    refine pre2 _ ?_
    show Steps p.tables e below (s₁.setTop (mkF m 9 #[rv r0, iv p1, iv p2, .val (.long key.toInt64), .second, .unset] [(.int (lcmpW key.toInt64 (0 : Int64)))])) _
    refine XS.ifNo X0.here hx rfl (hb hby d5_9) rfl ((if0 _ _).trans (flt hc9_1).1) ?_
    refine XS.lloadN X0.here hx rfl (hb hby d5_12) rfl ?_
    refine XS.iloadN X0.here hx rfl (hb hby d5_13) rfl ?_
    refine XS.i2l X0.here hx rfl (hb hby d5_14) rfl ?_
    refine XS.lcmp X0.here hx rfl (hb hby d5_15) rfl ?_
    exact kt
  have hc16_3 : (lcmpW key.toInt64 (p1.toInt64)) < (0 : Int32) := hk1
  have pre5 : ∀ t, Steps p.tables e below (s₁.setTop (mkF m 22 #[rv r0, iv p1, iv p2, .val (.long key.toInt64), .second, .unset] [(.ref r0)])) t → Steps p.tables e below (s₁.setTop (entryFrame m #[(.ref r0), (.int p1), (.int p2)] 6)) t := by
    intro t kt
    refine pre4 _ ?_
    show Steps p.tables e below (s₁.setTop (mkF m 16 #[rv r0, iv p1, iv p2, .val (.long key.toInt64), .second, .unset] [(.int (lcmpW key.toInt64 (p1.toInt64)))])) _
    refine XS.ifYes X0.here hx rfl (pc0 := 16) (pc' := 21) rfl (hb hby d5_16) rfl ((if0 _ _).trans (tlt hc16_3).1) (by decide) (by decide) ?_
    refine XS.aloadN X0.here hx rfl (hb hby d5_21) rfl rfl ?_
    exact kt
  obtain ⟨T6, X6, e6, st6⟩ := getF X0 hx hZ hown (host := "") (Or.inl (hw _ (List.mem_of_getElem? (i := 11) rfl))) Via.refl e0 F_offsets_r0 (g := (mkF m 22 #[rv r0, iv p1, iv p2, .val (.long key.toInt64), .second, .unset] [(.ref r0)])) rfl rfl (hb hby d5_22)
  have pre7 : ∀ t, Steps p.tables e below (T6.setTop (mkF m 27 #[rv r0, iv p1, iv p2, .val (.long key.toInt64), .second, .unset] [(.ref r0), (.int (0 : Int32)), (.ref ab)])) t → Steps p.tables e below (s₁.setTop (entryFrame m #[(.ref r0), (.int p1), (.int p2)] 6)) t := by
    intro t kt
    refine pre5 _ ?_
    show Steps p.tables e below (s₁.setTop (mkF m 22 #[rv r0, iv p1, iv p2, .val (.long key.toInt64), .second, .unset] [(.ref r0)])) _
    refine st6 _ ?_
    show Steps p.tables e below (T6.setTop (mkF m 25 #[rv r0, iv p1, iv p2, .val (.long key.toInt64), .second, .unset] [(.ref ab)])) _
    refine XS.iconst X6.here hx rfl (hb hby d5_25) ?_
    refine XS.aloadN X6.here hx rfl (hb hby d5_26) rfl rfl ?_
    exact kt
  obtain ⟨T8, X8, e8, st8⟩ := getF X6 hx hZ hown (host := "") (Or.inl (hw _ (List.mem_of_getElem? (i := 18) rfl))) Via.refl e6 F_count_r0 (g := (mkF m 27 #[rv r0, iv p1, iv p2, .val (.long key.toInt64), .second, .unset] [(.ref r0), (.int (0 : Int32)), (.ref ab)])) rfl rfl (hb hby d5_27)
  have pre9 : ∀ t, Steps p.tables e below (T8.setTop (mkF m 32 #[rv r0, iv p1, iv p2, .val (.long key.toInt64), .second, .unset] [(.int key), (.int (2 : Int32)), (.int (0 : Int32)), (.ref ab)])) t → Steps p.tables e below (s₁.setTop (entryFrame m #[(.ref r0), (.int p1), (.int p2)] 6)) t := by
    intro t kt
    refine pre7 _ ?_
    show Steps p.tables e below (T6.setTop (mkF m 27 #[rv r0, iv p1, iv p2, .val (.long key.toInt64), .second, .unset] [(.ref r0), (.int (0 : Int32)), (.ref ab)])) _
    refine st8 _ ?_
    show Steps p.tables e below (T8.setTop (mkF m 30 #[rv r0, iv p1, iv p2, .val (.long key.toInt64), .second, .unset] [(.int (2 : Int32)), (.int (0 : Int32)), (.ref ab)])) _
    refine XS.lloadN X8.here hx rfl (hb hby d5_30) rfl ?_
    refine XS.l2i X8.here hx rfl (hb hby d5_31) rfl ?_
    show Steps p.tables e below (T8.setTop (mkF m 32 #[rv r0, iv p1, iv p2, .val (.long key.toInt64), .second, .unset] [(.int (key.toInt64.toInt32)), (.int (2 : Int32)), (.int (0 : Int32)), (.ref ab)])) _
    rw [show (key.toInt64.toInt32) = key from (Int32.toInt32_toInt64 key)]
    exact kt
  obtain ⟨_, _, ⟨T10, L10, k10, n10⟩, -, X10, ⟨Lc10, hQ10, l10, y10, z10⟩, st10⟩ := Jvm.LawKit.callS X8 hx (y := (⟨"java/util/Arrays", "binarySearch", "([IIII)I"⟩ : MethodName)) hown (mvT hZ (hw _ (List.mem_of_getElem? (i := 30) rfl))) (mvT hZ (hw _ (List.mem_of_getElem? (i := 31) rfl))) (mvT hZ (hw _ (List.mem_of_getElem? (i := 32) rfl))) (mvT hZ (hw _ (List.mem_of_getElem? (i := 33) rfl))) (by decide) (backOf (W := 0) (rm6c2 l Z a0 hw [] ab key kc x0 x1 x2 x3 h0 n0 (Nat.le_trans Z0 (Keep.refl h0 []).1) V_ab) hZ (hw _ (List.mem_of_getElem? (i := 33) rfl)) (hw _ (List.mem_of_getElem? (i := 32) rfl)) (by decide) (by decide)) (g := (mkF m 32 #[rv r0, iv p1, iv p2, .val (.long key.toInt64), .second, .unset] [(.int key), (.int (2 : Int32)), (.int (0 : Int32)), (.ref ab)])) rfl (by rw [hml]; rfl) (argsL := [(.ref ab), (.int (0 : Int32)), (.int (2 : Int32)), (.int key)]) (rest := []) (lenOf pd3 rfl) rfl (by show 2 * 0 + _ ≤ _; exact Nat.le_of_eq rfl) (hb hby d5_32) (fun _ _ => ⟨rfl, e8, (by decide : 0 + 0 ≤ _), (by decide : 0 + 0 ≤ _)⟩)
  dsimp only [Pt.U, Pt.locs, Pt.cells, Pt.slots] at X10 l10 y10 z10 st10 hQ10
  subst l10 y10 z10
  obtain ⟨rfl, N10q, hh10⟩ := hQ10
  have N10 := Fr.app N0 N10q
  have pre11 : ∀ t, Steps p.tables e below (T10.setTop (mkF m 39 #[rv r0, iv p1, iv p2, .val (.long key.toInt64), .second, iv (own_bs2 key x0 x1 x2 x3)] [(.int (own_bs2 key x0 x1 x2 x3))])) t → Steps p.tables e below (s₁.setTop (entryFrame m #[(.ref r0), (.int p1), (.int p2)] 6)) t := by
    intro t kt
    refine pre9 _ ?_
    show Steps p.tables e below (T8.setTop (mkF m 32 #[rv r0, iv p1, iv p2, .val (.long key.toInt64), .second, .unset] [(.int key), (.int (2 : Int32)), (.int (0 : Int32)), (.ref ab)])) _
    refine st10 _ ?_
    show Steps p.tables e below (T10.setTop (mkF m 35 #[rv r0, iv p1, iv p2, .val (.long key.toInt64), .second, .unset] [(.int (own_bs2 key x0 x1 x2 x3))])) _
    refine XS.istore X10.here hx rfl (hb hby d5_35) rfl (l' := #[rv r0, iv p1, iv p2, .val (.long key.toInt64), .second, iv (own_bs2 key x0 x1 x2 x3)]) rfl ?_
    refine XS.iload X10.here hx rfl (hb hby d5_37) rfl ?_
    exact kt
  by_cases hc39 : (own_bs2 key x0 x1 x2 x3) < (0 : Int32)
  · have pre12 : ∀ t, Steps p.tables e below (T10.setTop (mkF m 48 #[rv r0, iv p1, iv p2, .val (.long key.toInt64), .second, iv (own_bs2 key x0 x1 x2 x3)] [(.int (-1 : Int32))])) t → Steps p.tables e below (s₁.setTop (entryFrame m #[(.ref r0), (.int p1), (.int p2)] 6)) t := by
      intro t kt
      refine pre11 _ ?_
      show Steps p.tables e below (T10.setTop (mkF m 39 #[rv r0, iv p1, iv p2, .val (.long key.toInt64), .second, iv (own_bs2 key x0 x1 x2 x3)] [(.int (own_bs2 key x0 x1 x2 x3))])) _
      refine XS.ifNo X10.here hx rfl (hb hby d5_39) rfl ((if0 _ _).trans (tlt hc39).2.1) ?_
      refine XS.iconst X10.here hx rfl (hb hby d5_42) ?_
      refine XS.goto X10.here hx rfl (pc0 := 43) (pc' := 48) rfl (hb hby d5_43) (by decide) (by decide) ?_
      exact kt
    obtain ⟨fs, hr, hrun, hended, hW, hsame⟩ := X10.leave (v := some (.int (-1 : Int32))) (fun h => by rw [Bd.returns] at h; cases h)
    refine ⟨_, _, pre12 _ ?_, hrun, hended, _, _, rfl, ?_, ⟨_, rfl⟩, hW, hsame.mono (by decide) (by decide)⟩
    · show Steps p.tables e below (T10.setTop (mkF m 48 #[rv r0, iv p1, iv p2, .val (.long key.toInt64), .second, iv (own_bs2 key x0 x1 x2 x3)] [(.int (-1 : Int32))])) _
      exact retI X10 hx Bd.returns (hb hby d5_48) hr
    · show Q5c2 Z r0 p1 p2 ab kc x0 x1 x2 x3 key h0 n0 _ T10.heap _
      rw [hh10]
      exact ⟨congrArg (fun z => some (Value.int z)) ((if_pos hc39).trans rfl).symm, N10, rfl⟩
  · have pre13 : ∀ t, Steps p.tables e below (T10.setTop (mkF m 48 #[rv r0, iv p1, iv p2, .val (.long key.toInt64), .second, iv (own_bs2 key x0 x1 x2 x3)] [(.int (own_bs2 key x0 x1 x2 x3))])) t → Steps p.tables e below (s₁.setTop (entryFrame m #[(.ref r0), (.int p1), (.int p2)] 6)) t := by
      intro t kt
      refine pre11 _ ?_
      show Steps p.tables e below (T10.setTop (mkF m 39 #[rv r0, iv p1, iv p2, .val (.long key.toInt64), .second, iv (own_bs2 key x0 x1 x2 x3)] [(.int (own_bs2 key x0 x1 x2 x3))])) _
      refine XS.ifYes X10.here hx rfl (pc0 := 39) (pc' := 46) rfl (hb hby d5_39) rfl ((if0 _ _).trans (flt hc39).2.1) (by decide) (by decide) ?_
      refine XS.iload X10.here hx rfl (hb hby d5_46) rfl ?_
      exact kt
    obtain ⟨fs, hr, hrun, hended, hW, hsame⟩ := X10.leave (v := some (.int (own_bs2 key x0 x1 x2 x3))) (fun h => by rw [Bd.returns] at h; cases h)
    refine ⟨_, _, pre13 _ ?_, hrun, hended, _, _, rfl, ?_, ⟨_, rfl⟩, hW, hsame.mono (by decide) (by decide)⟩
    · show Steps p.tables e below (T10.setTop (mkF m 48 #[rv r0, iv p1, iv p2, .val (.long key.toInt64), .second, iv (own_bs2 key x0 x1 x2 x3)] [(.int (own_bs2 key x0 x1 x2 x3))])) _
      exact retI X10 hx Bd.returns (hb hby d5_48) hr
    · show Q5c2 Z r0 p1 p2 ab kc x0 x1 x2 x3 key h0 n0 _ T10.heap _
      rw [hh10]
      exact ⟨congrArg (fun z => some (Value.int z)) ((if_neg hc39).trans rfl).symm, N10, rfl⟩

theorem ef_7c3 (m : MethodId) (x0 : Int32) (x1 : Int32) (x2 : Int32) : entryFrame m #[(.int x0), (.int x1), (.int x2)] 3 = mkF m 0 #[.val (.int x0), .val (.int x1), .val (.int x2)] [] := by first | (simp [entryFrame, mkF, argsToLocals, Value.category]; done) | rfl
def Q7c3 (Z : State)  (h0 : Heap) (n0 : Nat) (v : Option Value) (h : Heap) (L : List Loc) : Prop := v = none ∧ Fr n0 L ∧ h = h0
set_option maxRecDepth 65536 in
set_option maxHeartbeats 40000000 in
theorem rm7c3 (l : Launch) (Z : State) (a0 : Array Value) (hw : ∀ d ∈ tables_1, d.before a0 Z = true) (ws : List Jvm.Cond)  (h0 : Heap) (n0 : Nat) (Z0 : n0 ≤ h0.size) :
    MetFree l (⟨"java/util/Arrays", "rangeCheck", "(III)V"⟩ : MethodName) (head1 (Jvm.Cond.code (⟨"java/util/Arrays", "rangeCheck", "(III)V"⟩ : MethodName) jdk_65_method_30_code 3 none :: ws) ({ frames := 0, cells := 0, slots := 0, locals := 0 } : Room)) (fun a U => a = #[(.int (16 : Int32)), (.int (0 : Int32)), (.int (3 : Int32))] ∧ Z.Warmed39 U.vm ∧ U.heap = h0) (fun _ _ _ _ _ => True) (fun _ U o U' => ∃ v L, o = .returned v ∧ Q7c3 Z  h0 n0 v U'.heap L ∧ FrameEnd U o U' L ({ frames := 0, cells := 0, slots := 0, locals := 0 } : Room).cells ({ frames := 0, cells := 0, slots := 0, locals := 0 } : Room).slots) := by
  refine MetFree.of_bodySF (plainFor_of_name pn1) hisR ?_
  intro p e s m args below meth c s₁ Bd hml0 hP hK
  obtain ⟨rfl, hZ, hh⟩ := hP
  have hx := Bd.exec
  have hby := Bd.bytes
  have hml : c.maxLocals = 3 := hml0
  have hown : s.vm.findClass "java/util/Arrays" = some m.cls := findClass_of_methodNamed Bd.named
  have hnm := (name_of_methodNamed Bd.named Bd.method).1
  have X0 : Stand p l e ({ frames := 0, cells := 0, slots := 0, locals := 0 } : Room) s m #[(.int (16 : Int32)), (.int (0 : Int32)), (.int (3 : Int32))] below meth c s₁ [] 0 0 := Stand.of_body Bd
  have e0 : s₁.heap = h0 := by rw [← hh, Bd.state]; rfl
  have N0 := Fr.nil n0
  have pre0 : ∀ t, Steps p.tables e below (s₁.setTop (mkF m 0 #[iv (16 : Int32), iv (0 : Int32), iv (3 : Int32)] [])) t → Steps p.tables e below (s₁.setTop (entryFrame m #[(.int (16 : Int32)), (.int (0 : Int32)), (.int (3 : Int32))] 3)) t := fun t k => castTop (ef_7c3 m (16 : Int32) (0 : Int32) (3 : Int32)) k
  have pre1 : ∀ t, Steps p.tables e below (s₁.setTop (mkF m 73 #[iv (16 : Int32), iv (0 : Int32), iv (3 : Int32)] [])) t → Steps p.tables e below (s₁.setTop (entryFrame m #[(.int (16 : Int32)), (.int (0 : Int32)), (.int (3 : Int32))] 3)) t := by
    intro t kt
    refine pre0 _ ?_
    show Steps p.tables e below (s₁.setTop (mkF m 0 #[iv (16 : Int32), iv (0 : Int32), iv (3 : Int32)] [])) _
    refine XS.iloadN X0.here hx rfl (hb hby d7_0) rfl ?_
    refine XS.iloadN X0.here hx rfl (hb hby d7_1) rfl ?_
    refine XS.icmpYes X0.here hx rfl (pc0 := 2) (pc' := 46) rfl (hb hby d7_2) rfl (flt (by decide)).2.2.2 (by decide) (by decide) ?_
    refine XS.iloadN X0.here hx rfl (hb hby d7_46) rfl ?_
    refine XS.ifYes X0.here hx rfl (pc0 := 47) (pc' := 59) rfl (hb hby d7_47) rfl ((if0 _ _).trans (flt (by decide)).2.1) (by decide) (by decide) ?_
    refine XS.iloadN X0.here hx rfl (hb hby d7_59) rfl ?_
    refine XS.iloadN X0.here hx rfl (hb hby d7_60) rfl ?_
    refine XS.icmpYes X0.here hx rfl (pc0 := 61) (pc' := 73) rfl (hb hby d7_61) rfl (flt (by decide)).2.2.2 (by decide) (by decide) ?_
    exact kt
  obtain ⟨fs, hr, hrun, hended, hW, hsame⟩ := X0.leave (v := none) (fun _ => rfl)
  refine ⟨_, _, pre1 _ ?_, hrun, hended, _, _, rfl, ?_, ⟨_, rfl⟩, hW, hsame.mono (by decide) (by decide)⟩
  · show Steps p.tables e below (s₁.setTop (mkF m 73 #[iv (16 : Int32), iv (0 : Int32), iv (3 : Int32)] [])) _
    exact X0.returnOut hx Bd.returns (hb hby d7_73) hr
  · show Q7c3 Z  h0 n0 _ s₁.heap _
    rw [e0]
    exact ⟨rfl, N0, rfl⟩
def own_bs3 (p3 : Int32) (x0 : Int32) (x1 : Int32) (x2 : Int32) (x3 : Int32) : Int32 := (if x1 < p3 then (if x2 < p3 then (-4 : Int32) else (if p3 < x2 then (-3 : Int32) else (2 : Int32))) else (if p3 < x1 then (if x0 < p3 then (-2 : Int32) else (if p3 < x0 then (-1 : Int32) else (0 : Int32))) else (1 : Int32)))

theorem ef_8c3 (m : MethodId) (x0 : Addr) (x1 : Int32) (x2 : Int32) (x3 : Int32) : entryFrame m #[(.ref x0), (.int x1), (.int x2), (.int x3)] 8 = mkF m 0 #[.val (.ref x0), .val (.int x1), .val (.int x2), .val (.int x3), .unset, .unset, .unset, .unset] [] := by first | (simp [entryFrame, mkF, argsToLocals, Value.category]; done) | rfl
def Q8c3 (Z : State) (r0 : Addr) (p3 : Int32) (kc : ClassId) (x0 : Int32) (x1 : Int32) (x2 : Int32) (x3 : Int32) (h0 : Heap) (n0 : Nat) (v : Option Value) (h : Heap) (L : List Loc) : Prop := v = some (.int (own_bs3 p3 x0 x1 x2 x3)) ∧ Fr n0 L ∧ h = h0
set_option maxRecDepth 65536 in
set_option maxHeartbeats 40000000 in
theorem rm8c3 (l : Launch) (Z : State) (a0 : Array Value) (hw : ∀ d ∈ tables_1, d.before a0 Z = true) (ws : List Jvm.Cond) (r0 : Addr) (p3 : Int32) (kc : ClassId) (x0 : Int32) (x1 : Int32) (x2 : Int32) (x3 : Int32) (h0 : Heap) (n0 : Nat) (Z0 : n0 ≤ h0.size) (V_r0 : Arv Z h0 r0 kc .int (16 : Int32) [(.int x0), (.int x1), (.int x2), (.int x3), (.int (0 : Int32)), (.int (0 : Int32)), (.int (0 : Int32)), (.int (0 : Int32)), (.int (0 : Int32)), (.int (0 : Int32)), (.int (0 : Int32)), (.int (0 : Int32)), (.int (0 : Int32)), (.int (0 : Int32)), (.int (0 : Int32)), (.int (0 : Int32))] (.int (0 : Int32))) :
    MetFree l (⟨"java/util/Arrays", "binarySearch0", "([IIII)I"⟩ : MethodName) (head1 (Jvm.Cond.code (⟨"java/util/Arrays", "binarySearch0", "([IIII)I"⟩ : MethodName) jdk_65_method_59_code 8 (some .int) :: ws) ({ frames := 0, cells := 0, slots := 0, locals := 0 } : Room)) (fun a U => a = #[(.ref r0), (.int (0 : Int32)), (.int (3 : Int32)), (.int p3)] ∧ Z.Warmed39 U.vm ∧ U.heap = h0) (fun _ _ _ _ _ => True) (fun _ U o U' => ∃ v L, o = .returned v ∧ Q8c3 Z r0 p3 kc x0 x1 x2 x3 h0 n0 v U'.heap L ∧ FrameEnd U o U' L ({ frames := 0, cells := 0, slots := 0, locals := 0 } : Room).cells ({ frames := 0, cells := 0, slots := 0, locals := 0 } : Room).slots) := by
  refine MetFree.of_bodySF (plainFor_of_name pn1) hisR ?_
  intro p e s m args below meth c s₁ Bd hml0 hP hK
  obtain ⟨rfl, hZ, hh⟩ := hP
  have hx := Bd.exec
  have hby := Bd.bytes
  have hml : c.maxLocals = 8 := hml0
  have hown : s.vm.findClass "java/util/Arrays" = some m.cls := findClass_of_methodNamed Bd.named
  have hnm := (name_of_methodNamed Bd.named Bd.method).1
  have X0 : Stand p l e ({ frames := 0, cells := 0, slots := 0, locals := 0 } : Room) s m #[(.ref r0), (.int (0 : Int32)), (.int (3 : Int32)), (.int p3)] below meth c s₁ [] 0 0 := Stand.of_body Bd
  have e0 : s₁.heap = h0 := by rw [← hh, Bd.state]; rfl
  have N0 := Fr.nil n0
  have pre0 : ∀ t, Steps p.tables e below (s₁.setTop (mkF m 0 #[rv r0, iv (0 : Int32), iv (3 : Int32), iv p3, .unset, .unset, .unset, .unset] [])) t → Steps p.tables e below (s₁.setTop (entryFrame m #[(.ref r0), (.int (0 : Int32)), (.int (3 : Int32)), (.int p3)] 8)) t := fun t k => castTop (ef_8c3 m r0 (0 : Int32) (3 : Int32) p3) k
  obtain ⟨cl1, Ar1, q1, S1, M1, H1, G1⟩ := id V_r0
  have hin1 : ¬ ((1 : Int32) < 0 ∨ cl1.slots.size ≤ ((1 : Int32)).toNatClampNeg) := inb_of S1 ⟨by decide, by decide⟩
  have hat1 : cl1.slots[((1 : Int32)).toNatClampNeg]? = some (.int x1) := H1.at hin1 rfl
  have pre2 : ∀ t, Steps p.tables e below (s₁.setTop (mkF m 33 #[rv r0, iv (0 : Int32), iv (3 : Int32), iv p3, iv (0 : Int32), iv (2 : Int32), iv (1 : Int32), iv x1] [(.int p3), (.int x1)])) t → Steps p.tables e below (s₁.setTop (entryFrame m #[(.ref r0), (.int (0 : Int32)), (.int (3 : Int32)), (.int p3)] 8)) t := by
    intro t kt
    refine pre0 _ ?_
    show Steps p.tables e below (s₁.setTop (mkF m 0 #[rv r0, iv (0 : Int32), iv (3 : Int32), iv p3, .unset, .unset, .unset, .unset] [])) _
    refine XS.iloadN X0.here hx rfl (hb hby d8_0) rfl ?_
    refine XS.istore X0.here hx rfl (hb hby d8_1) rfl (l' := #[rv r0, iv (0 : Int32), iv (3 : Int32), iv p3, iv (0 : Int32), .unset, .unset, .unset]) rfl ?_
    refine XS.iloadN X0.here hx rfl (hb hby d8_3) rfl ?_
    refine XS.iconst X0.here hx rfl (hb hby d8_4) ?_
    refine XS.isub X0.here hx rfl (hb hby d8_5) rfl ?_
    show Steps p.tables e below (s₁.setTop (mkF m 6 #[rv r0, iv (0 : Int32), iv (3 : Int32), iv p3, iv (0 : Int32), .unset, .unset, .unset] [(.int ((3 : Int32) - (1 : Int32)))])) _
    rw [show ((3 : Int32) - (1 : Int32)) = (2 : Int32) from (by decide)]
    show Steps p.tables e below (s₁.setTop (mkF m 6 #[rv r0, iv (0 : Int32), iv (3 : Int32), iv p3, iv (0 : Int32), .unset, .unset, .unset] [(.int (2 : Int32))])) _
    refine XS.istore X0.here hx rfl (hb hby d8_6) rfl (l' := #[rv r0, iv (0 : Int32), iv (3 : Int32), iv p3, iv (0 : Int32), iv (2 : Int32), .unset, .unset]) rfl ?_
    refine XS.iload X0.here hx rfl (hb hby d8_8) rfl ?_
    refine XS.iload X0.here hx rfl (hb hby d8_10) rfl ?_
    refine XS.icmpNo X0.here hx rfl (hb hby d8_12) rfl (flt (by decide)).2.2.1 ?_
    refine XS.iload X0.here hx rfl (hb hby d8_15) rfl ?_
    refine XS.iload X0.here hx rfl (hb hby d8_17) rfl ?_
    refine XS.iadd X0.here hx rfl (hb hby d8_19) rfl ?_
    show Steps p.tables e below (s₁.setTop (mkF m 20 #[rv r0, iv (0 : Int32), iv (3 : Int32), iv p3, iv (0 : Int32), iv (2 : Int32), .unset, .unset] [(.int ((0 : Int32) + (2 : Int32)))])) _
    rw [show ((0 : Int32) + (2 : Int32)) = (2 : Int32) from (by decide)]
    show Steps p.tables e below (s₁.setTop (mkF m 20 #[rv r0, iv (0 : Int32), iv (3 : Int32), iv p3, iv (0 : Int32), iv (2 : Int32), .unset, .unset] [(.int (2 : Int32))])) _
    refine XS.iconst X0.here hx rfl (hb hby d8_20) ?_
    refine XS.iushr X0.here hx rfl (hb hby d8_21) rfl ?_
    show Steps p.tables e below (s₁.setTop (mkF m 22 #[rv r0, iv (0 : Int32), iv (3 : Int32), iv p3, iv (0 : Int32), iv (2 : Int32), .unset, .unset] [(.int (((2 : Int32).toUInt32 >>> ((1 : Int32) &&& 31).toUInt32).toInt32))])) _
    rw [show (((2 : Int32).toUInt32 >>> ((1 : Int32) &&& 31).toUInt32).toInt32) = (1 : Int32) from (by decide)]
    show Steps p.tables e below (s₁.setTop (mkF m 22 #[rv r0, iv (0 : Int32), iv (3 : Int32), iv p3, iv (0 : Int32), iv (2 : Int32), .unset, .unset] [(.int (1 : Int32))])) _
    refine XS.istore X0.here hx rfl (hb hby d8_22) rfl (l' := #[rv r0, iv (0 : Int32), iv (3 : Int32), iv p3, iv (0 : Int32), iv (2 : Int32), iv (1 : Int32), .unset]) rfl ?_
    refine XS.aloadN X0.here hx rfl (hb hby d8_24) rfl rfl ?_
    refine XS.iload X0.here hx rfl (hb hby d8_25) rfl ?_
    refine X0.iaload hx (j := (1 : Int32)) (v := (.int x1)) (by rw [e0]; exact Ar1.1) (State.isArrayOf_alike hZ.alike Ar1.2.1) Ar1.2.2 hin1 hat1 (g := (mkF m 27 #[rv r0, iv (0 : Int32), iv (3 : Int32), iv p3, iv (0 : Int32), iv (2 : Int32), iv (1 : Int32), .unset] [(.int (1 : Int32)), (.ref r0)])) rfl rfl (hb hby d8_27) _ ?_
    show Steps p.tables e below (s₁.setTop (mkF m 28 #[rv r0, iv (0 : Int32), iv (3 : Int32), iv p3, iv (0 : Int32), iv (2 : Int32), iv (1 : Int32), .unset] [(.int x1)])) _
    refine XS.istore X0.here hx rfl (hb hby d8_28) rfl (l' := #[rv r0, iv (0 : Int32), iv (3 : Int32), iv p3, iv (0 : Int32), iv (2 : Int32), iv (1 : Int32), iv x1]) rfl ?_
    refine XS.iload X0.here hx rfl (hb hby d8_30) rfl ?_
    refine XS.iloadN X0.here hx rfl (hb hby d8_32) rfl ?_
    exact kt
  by_cases hc33 : x1 < p3
  · obtain ⟨cl3, Ar3, q3, S3, M3, H3, G3⟩ := id V_r0
    have hin3 : ¬ ((2 : Int32) < 0 ∨ cl3.slots.size ≤ ((2 : Int32)).toNatClampNeg) := inb_of S3 ⟨by decide, by decide⟩
    have hat3 : cl3.slots[((2 : Int32)).toNatClampNeg]? = some (.int x2) := H3.at hin3 rfl
    have pre4 : ∀ t, Steps p.tables e below (s₁.setTop (mkF m 33 #[rv r0, iv (0 : Int32), iv (3 : Int32), iv p3, iv (2 : Int32), iv (2 : Int32), iv (2 : Int32), iv x2] [(.int p3), (.int x2)])) t → Steps p.tables e below (s₁.setTop (entryFrame m #[(.ref r0), (.int (0 : Int32)), (.int (3 : Int32)), (.int p3)] 8)) t := by
      intro t kt
      refine pre2 _ ?_
      show Steps p.tables e below (s₁.setTop (mkF m 33 #[rv r0, iv (0 : Int32), iv (3 : Int32), iv p3, iv (0 : Int32), iv (2 : Int32), iv (1 : Int32), iv x1] [(.int p3), (.int x1)])) _
      refine XS.icmpNo X0.here hx rfl (hb hby d8_33) rfl (tlt hc33).2.1 ?_
      refine XS.iload X0.here hx rfl (hb hby d8_36) rfl ?_
      refine XS.iconst X0.here hx rfl (hb hby d8_38) ?_
      refine XS.iadd X0.here hx rfl (hb hby d8_39) rfl ?_
      show Steps p.tables e below (s₁.setTop (mkF m 40 #[rv r0, iv (0 : Int32), iv (3 : Int32), iv p3, iv (0 : Int32), iv (2 : Int32), iv (1 : Int32), iv x1] [(.int ((1 : Int32) + (1 : Int32)))])) _
      rw [show ((1 : Int32) + (1 : Int32)) = (2 : Int32) from (by decide)]
      show Steps p.tables e below (s₁.setTop (mkF m 40 #[rv r0, iv (0 : Int32), iv (3 : Int32), iv p3, iv (0 : Int32), iv (2 : Int32), iv (1 : Int32), iv x1] [(.int (2 : Int32))])) _
      refine XS.istore X0.here hx rfl (hb hby d8_40) rfl (l' := #[rv r0, iv (0 : Int32), iv (3 : Int32), iv p3, iv (2 : Int32), iv (2 : Int32), iv (1 : Int32), iv x1]) rfl ?_
      refine XS.goto X0.here hx rfl (pc0 := 42) (pc' := 63) rfl (hb hby d8_42) (by decide) (by decide) ?_
      refine XS.goto X0.here hx rfl (pc0 := 63) (pc' := 8) rfl (hb hby d8_63) (by decide) (by decide) ?_
      refine XS.iload X0.here hx rfl (hb hby d8_8) rfl ?_
      refine XS.iload X0.here hx rfl (hb hby d8_10) rfl ?_
      refine XS.icmpNo X0.here hx rfl (hb hby d8_12) rfl (flt (by decide)).2.2.1 ?_
      refine XS.iload X0.here hx rfl (hb hby d8_15) rfl ?_
      refine XS.iload X0.here hx rfl (hb hby d8_17) rfl ?_
      show Steps p.tables e below (s₁.setTop (mkF m 19 #[rv r0, iv (0 : Int32), iv (3 : Int32), iv p3, iv (2 : Int32), iv (2 : Int32), iv (1 : Int32), iv x1] [(.int (2 : Int32)), (.int (2 : Int32))])) _
      refine XS.iadd X0.here hx rfl (hb hby d8_19) rfl ?_
      show Steps p.tables e below (s₁.setTop (mkF m 20 #[rv r0, iv (0 : Int32), iv (3 : Int32), iv p3, iv (2 : Int32), iv (2 : Int32), iv (1 : Int32), iv x1] [(.int ((2 : Int32) + (2 : Int32)))])) _
      rw [show ((2 : Int32) + (2 : Int32)) = (4 : Int32) from (by decide)]
      show Steps p.tables e below (s₁.setTop (mkF m 20 #[rv r0, iv (0 : Int32), iv (3 : Int32), iv p3, iv (2 : Int32), iv (2 : Int32), iv (1 : Int32), iv x1] [(.int (4 : Int32))])) _
      refine XS.iconst X0.here hx rfl (hb hby d8_20) ?_
      refine XS.iushr X0.here hx rfl (hb hby d8_21) rfl ?_
      show Steps p.tables e below (s₁.setTop (mkF m 22 #[rv r0, iv (0 : Int32), iv (3 : Int32), iv p3, iv (2 : Int32), iv (2 : Int32), iv (1 : Int32), iv x1] [(.int (((4 : Int32).toUInt32 >>> ((1 : Int32) &&& 31).toUInt32).toInt32))])) _
      rw [show (((4 : Int32).toUInt32 >>> ((1 : Int32) &&& 31).toUInt32).toInt32) = (2 : Int32) from (by decide)]
      show Steps p.tables e below (s₁.setTop (mkF m 22 #[rv r0, iv (0 : Int32), iv (3 : Int32), iv p3, iv (2 : Int32), iv (2 : Int32), iv (1 : Int32), iv x1] [(.int (2 : Int32))])) _
      refine XS.istore X0.here hx rfl (hb hby d8_22) rfl (l' := #[rv r0, iv (0 : Int32), iv (3 : Int32), iv p3, iv (2 : Int32), iv (2 : Int32), iv (2 : Int32), iv x1]) rfl ?_
      refine XS.aloadN X0.here hx rfl (hb hby d8_24) rfl rfl ?_
      refine XS.iload X0.here hx rfl (hb hby d8_25) rfl ?_
      refine X0.iaload hx (j := (2 : Int32)) (v := (.int x2)) (by rw [e0]; exact Ar3.1) (State.isArrayOf_alike hZ.alike Ar3.2.1) Ar3.2.2 hin3 hat3 (g := (mkF m 27 #[rv r0, iv (0 : Int32), iv (3 : Int32), iv p3, iv (2 : Int32), iv (2 : Int32), iv (2 : Int32), iv x1] [(.int (2 : Int32)), (.ref r0)])) rfl rfl (hb hby d8_27) _ ?_
      show Steps p.tables e below (s₁.setTop (mkF m 28 #[rv r0, iv (0 : Int32), iv (3 : Int32), iv p3, iv (2 : Int32), iv (2 : Int32), iv (2 : Int32), iv x1] [(.int x2)])) _
      refine XS.istore X0.here hx rfl (hb hby d8_28) rfl (l' := #[rv r0, iv (0 : Int32), iv (3 : Int32), iv p3, iv (2 : Int32), iv (2 : Int32), iv (2 : Int32), iv x2]) rfl ?_
      refine XS.iload X0.here hx rfl (hb hby d8_30) rfl ?_
      refine XS.iloadN X0.here hx rfl (hb hby d8_32) rfl ?_
      exact kt
    by_cases hc33_5 : x2 < p3
    · have pre6 : ∀ t, Steps p.tables e below (s₁.setTop (mkF m 71 #[rv r0, iv (0 : Int32), iv (3 : Int32), iv p3, iv (3 : Int32), iv (2 : Int32), iv (2 : Int32), iv x2] [(.int (-4 : Int32))])) t → Steps p.tables e below (s₁.setTop (entryFrame m #[(.ref r0), (.int (0 : Int32)), (.int (3 : Int32)), (.int p3)] 8)) t := by
        intro t kt
        refine pre4 _ ?_
        show Steps p.tables e below (s₁.setTop (mkF m 33 #[rv r0, iv (0 : Int32), iv (3 : Int32), iv p3, iv (2 : Int32), iv (2 : Int32), iv (2 : Int32), iv x2] [(.int p3), (.int x2)])) _
        refine XS.icmpNo X0.here hx rfl (hb hby d8_33) rfl (tlt hc33_5).2.1 ?_
        refine XS.iload X0.here hx rfl (hb hby d8_36) rfl ?_
        refine XS.iconst X0.here hx rfl (hb hby d8_38) ?_
        refine XS.iadd X0.here hx rfl (hb hby d8_39) rfl ?_
        show Steps p.tables e below (s₁.setTop (mkF m 40 #[rv r0, iv (0 : Int32), iv (3 : Int32), iv p3, iv (2 : Int32), iv (2 : Int32), iv (2 : Int32), iv x2] [(.int ((2 : Int32) + (1 : Int32)))])) _
        rw [show ((2 : Int32) + (1 : Int32)) = (3 : Int32) from (by decide)]
        show Steps p.tables e below (s₁.setTop (mkF m 40 #[rv r0, iv (0 : Int32), iv (3 : Int32), iv p3, iv (2 : Int32), iv (2 : Int32), iv (2 : Int32), iv x2] [(.int (3 : Int32))])) _
        refine XS.istore X0.here hx rfl (hb hby d8_40) rfl (l' := #[rv r0, iv (0 : Int32), iv (3 : Int32), iv p3, iv (3 : Int32), iv (2 : Int32), iv (2 : Int32), iv x2]) rfl ?_
        refine XS.goto X0.here hx rfl (pc0 := 42) (pc' := 63) rfl (hb hby d8_42) (by decide) (by decide) ?_
        refine XS.goto X0.here hx rfl (pc0 := 63) (pc' := 8) rfl (hb hby d8_63) (by decide) (by decide) ?_
        refine XS.iload X0.here hx rfl (hb hby d8_8) rfl ?_
        refine XS.iload X0.here hx rfl (hb hby d8_10) rfl ?_
        refine XS.icmpYes X0.here hx rfl (pc0 := 12) (pc' := 66) rfl (hb hby d8_12) rfl (tlt (by decide)).2.2.1 (by decide) (by decide) ?_
        refine XS.iload X0.here hx rfl (hb hby d8_66) rfl ?_
        refine XS.iconst X0.here hx rfl (hb hby d8_68) ?_
        show Steps p.tables e below (s₁.setTop (mkF m 69 #[rv r0, iv (0 : Int32), iv (3 : Int32), iv p3, iv (3 : Int32), iv (2 : Int32), iv (2 : Int32), iv x2] [(.int (1 : Int32)), (.int (3 : Int32))])) _
        refine XS.iadd X0.here hx rfl (hb hby d8_69) rfl ?_
        show Steps p.tables e below (s₁.setTop (mkF m 70 #[rv r0, iv (0 : Int32), iv (3 : Int32), iv p3, iv (3 : Int32), iv (2 : Int32), iv (2 : Int32), iv x2] [(.int ((3 : Int32) + (1 : Int32)))])) _
        rw [show ((3 : Int32) + (1 : Int32)) = (4 : Int32) from (by decide)]
        show Steps p.tables e below (s₁.setTop (mkF m 70 #[rv r0, iv (0 : Int32), iv (3 : Int32), iv p3, iv (3 : Int32), iv (2 : Int32), iv (2 : Int32), iv x2] [(.int (4 : Int32))])) _
        refine XS.ineg X0.here hx rfl (hb hby d8_70) rfl ?_
        show Steps p.tables e below (s₁.setTop (mkF m 71 #[rv r0, iv (0 : Int32), iv (3 : Int32), iv p3, iv (3 : Int32), iv (2 : Int32), iv (2 : Int32), iv x2] [(.int (-(4 : Int32)))])) _
        rw [show (-(4 : Int32)) = (-4 : Int32) from (by decide)]
        exact kt
      obtain ⟨fs, hr, hrun, hended, hW, hsame⟩ := X0.leave (v := some (.int (-4 : Int32))) (fun h => by rw [Bd.returns] at h; cases h)
      refine ⟨_, _, pre6 _ ?_, hrun, hended, _, _, rfl, ?_, ⟨_, rfl⟩, hW, hsame.mono (by decide) (by decide)⟩
      · show Steps p.tables e below (s₁.setTop (mkF m 71 #[rv r0, iv (0 : Int32), iv (3 : Int32), iv p3, iv (3 : Int32), iv (2 : Int32), iv (2 : Int32), iv x2] [(.int (-4 : Int32))])) _
        exact retI X0 hx Bd.returns (hb hby d8_71) hr
      · show Q8c3 Z r0 p3 kc x0 x1 x2 x3 h0 n0 _ s₁.heap _
        rw [e0]
        exact ⟨congrArg (fun z => some (Value.int z)) ((if_pos hc33).trans ((if_pos hc33_5).trans rfl)).symm, N0, rfl⟩
    · have pre7 : ∀ t, Steps p.tables e below (s₁.setTop (mkF m 48 #[rv r0, iv (0 : Int32), iv (3 : Int32), iv p3, iv (2 : Int32), iv (2 : Int32), iv (2 : Int32), iv x2] [(.int p3), (.int x2)])) t → Steps p.tables e below (s₁.setTop (entryFrame m #[(.ref r0), (.int (0 : Int32)), (.int (3 : Int32)), (.int p3)] 8)) t := by
        intro t kt
        refine pre4 _ ?_
        show Steps p.tables e below (s₁.setTop (mkF m 33 #[rv r0, iv (0 : Int32), iv (3 : Int32), iv p3, iv (2 : Int32), iv (2 : Int32), iv (2 : Int32), iv x2] [(.int p3), (.int x2)])) _
        refine XS.icmpYes X0.here hx rfl (pc0 := 33) (pc' := 45) rfl (hb hby d8_33) rfl (flt hc33_5).2.1 (by decide) (by decide) ?_
        refine XS.iload X0.here hx rfl (hb hby d8_45) rfl ?_
        refine XS.iloadN X0.here hx rfl (hb hby d8_47) rfl ?_
        exact kt
      by_cases hc48 : p3 < x2
      · have pre8 : ∀ t, Steps p.tables e below (s₁.setTop (mkF m 71 #[rv r0, iv (0 : Int32), iv (3 : Int32), iv p3, iv (2 : Int32), iv (1 : Int32), iv (2 : Int32), iv x2] [(.int (-3 : Int32))])) t → Steps p.tables e below (s₁.setTop (entryFrame m #[(.ref r0), (.int (0 : Int32)), (.int (3 : Int32)), (.int p3)] 8)) t := by
          intro t kt
          refine pre7 _ ?_
          show Steps p.tables e below (s₁.setTop (mkF m 48 #[rv r0, iv (0 : Int32), iv (3 : Int32), iv p3, iv (2 : Int32), iv (2 : Int32), iv (2 : Int32), iv x2] [(.int p3), (.int x2)])) _
          refine XS.icmpNo X0.here hx rfl (hb hby d8_48) rfl (tlt hc48).2.2.2 ?_
          refine XS.iload X0.here hx rfl (hb hby d8_51) rfl ?_
          refine XS.iconst X0.here hx rfl (hb hby d8_53) ?_
          refine XS.isub X0.here hx rfl (hb hby d8_54) rfl ?_
          show Steps p.tables e below (s₁.setTop (mkF m 55 #[rv r0, iv (0 : Int32), iv (3 : Int32), iv p3, iv (2 : Int32), iv (2 : Int32), iv (2 : Int32), iv x2] [(.int ((2 : Int32) - (1 : Int32)))])) _
          rw [show ((2 : Int32) - (1 : Int32)) = (1 : Int32) from (by decide)]
          show Steps p.tables e below (s₁.setTop (mkF m 55 #[rv r0, iv (0 : Int32), iv (3 : Int32), iv p3, iv (2 : Int32), iv (2 : Int32), iv (2 : Int32), iv x2] [(.int (1 : Int32))])) _
          refine XS.istore X0.here hx rfl (hb hby d8_55) rfl (l' := #[rv r0, iv (0 : Int32), iv (3 : Int32), iv p3, iv (2 : Int32), iv (1 : Int32), iv (2 : Int32), iv x2]) rfl ?_
          refine XS.goto X0.here hx rfl (pc0 := 57) (pc' := 63) rfl (hb hby d8_57) (by decide) (by decide) ?_
          refine XS.goto X0.here hx rfl (pc0 := 63) (pc' := 8) rfl (hb hby d8_63) (by decide) (by decide) ?_
          refine XS.iload X0.here hx rfl (hb hby d8_8) rfl ?_
          refine XS.iload X0.here hx rfl (hb hby d8_10) rfl ?_
          refine XS.icmpYes X0.here hx rfl (pc0 := 12) (pc' := 66) rfl (hb hby d8_12) rfl (tlt (by decide)).2.2.1 (by decide) (by decide) ?_
          refine XS.iload X0.here hx rfl (hb hby d8_66) rfl ?_
          refine XS.iconst X0.here hx rfl (hb hby d8_68) ?_
          show Steps p.tables e below (s₁.setTop (mkF m 69 #[rv r0, iv (0 : Int32), iv (3 : Int32), iv p3, iv (2 : Int32), iv (1 : Int32), iv (2 : Int32), iv x2] [(.int (1 : Int32)), (.int (2 : Int32))])) _
          refine XS.iadd X0.here hx rfl (hb hby d8_69) rfl ?_
          show Steps p.tables e below (s₁.setTop (mkF m 70 #[rv r0, iv (0 : Int32), iv (3 : Int32), iv p3, iv (2 : Int32), iv (1 : Int32), iv (2 : Int32), iv x2] [(.int ((2 : Int32) + (1 : Int32)))])) _
          rw [show ((2 : Int32) + (1 : Int32)) = (3 : Int32) from (by decide)]
          show Steps p.tables e below (s₁.setTop (mkF m 70 #[rv r0, iv (0 : Int32), iv (3 : Int32), iv p3, iv (2 : Int32), iv (1 : Int32), iv (2 : Int32), iv x2] [(.int (3 : Int32))])) _
          refine XS.ineg X0.here hx rfl (hb hby d8_70) rfl ?_
          show Steps p.tables e below (s₁.setTop (mkF m 71 #[rv r0, iv (0 : Int32), iv (3 : Int32), iv p3, iv (2 : Int32), iv (1 : Int32), iv (2 : Int32), iv x2] [(.int (-(3 : Int32)))])) _
          rw [show (-(3 : Int32)) = (-3 : Int32) from (by decide)]
          exact kt
        obtain ⟨fs, hr, hrun, hended, hW, hsame⟩ := X0.leave (v := some (.int (-3 : Int32))) (fun h => by rw [Bd.returns] at h; cases h)
        refine ⟨_, _, pre8 _ ?_, hrun, hended, _, _, rfl, ?_, ⟨_, rfl⟩, hW, hsame.mono (by decide) (by decide)⟩
        · show Steps p.tables e below (s₁.setTop (mkF m 71 #[rv r0, iv (0 : Int32), iv (3 : Int32), iv p3, iv (2 : Int32), iv (1 : Int32), iv (2 : Int32), iv x2] [(.int (-3 : Int32))])) _
          exact retI X0 hx Bd.returns (hb hby d8_71) hr
        · show Q8c3 Z r0 p3 kc x0 x1 x2 x3 h0 n0 _ s₁.heap _
          rw [e0]
          exact ⟨congrArg (fun z => some (Value.int z)) ((if_pos hc33).trans ((if_neg hc33_5).trans ((if_pos hc48).trans rfl))).symm, N0, rfl⟩
      · have pre9 : ∀ t, Steps p.tables e below (s₁.setTop (mkF m 62 #[rv r0, iv (0 : Int32), iv (3 : Int32), iv p3, iv (2 : Int32), iv (2 : Int32), iv (2 : Int32), iv x2] [(.int (2 : Int32))])) t → Steps p.tables e below (s₁.setTop (entryFrame m #[(.ref r0), (.int (0 : Int32)), (.int (3 : Int32)), (.int p3)] 8)) t := by
          intro t kt
          refine pre7 _ ?_
          show Steps p.tables e below (s₁.setTop (mkF m 48 #[rv r0, iv (0 : Int32), iv (3 : Int32), iv p3, iv (2 : Int32), iv (2 : Int32), iv (2 : Int32), iv x2] [(.int p3), (.int x2)])) _
          refine XS.icmpYes X0.here hx rfl (pc0 := 48) (pc' := 60) rfl (hb hby d8_48) rfl (flt hc48).2.2.2 (by decide) (by decide) ?_
          refine XS.iload X0.here hx rfl (hb hby d8_60) rfl ?_
          exact kt
        obtain ⟨fs, hr, hrun, hended, hW, hsame⟩ := X0.leave (v := some (.int (2 : Int32))) (fun h => by rw [Bd.returns] at h; cases h)
        refine ⟨_, _, pre9 _ ?_, hrun, hended, _, _, rfl, ?_, ⟨_, rfl⟩, hW, hsame.mono (by decide) (by decide)⟩
        · show Steps p.tables e below (s₁.setTop (mkF m 62 #[rv r0, iv (0 : Int32), iv (3 : Int32), iv p3, iv (2 : Int32), iv (2 : Int32), iv (2 : Int32), iv x2] [(.int (2 : Int32))])) _
          exact retI X0 hx Bd.returns (hb hby d8_62) hr
        · show Q8c3 Z r0 p3 kc x0 x1 x2 x3 h0 n0 _ s₁.heap _
          rw [e0]
          exact ⟨congrArg (fun z => some (Value.int z)) ((if_pos hc33).trans ((if_neg hc33_5).trans ((if_neg hc48).trans rfl))).symm, N0, rfl⟩
  · have pre10 : ∀ t, Steps p.tables e below (s₁.setTop (mkF m 48 #[rv r0, iv (0 : Int32), iv (3 : Int32), iv p3, iv (0 : Int32), iv (2 : Int32), iv (1 : Int32), iv x1] [(.int p3), (.int x1)])) t → Steps p.tables e below (s₁.setTop (entryFrame m #[(.ref r0), (.int (0 : Int32)), (.int (3 : Int32)), (.int p3)] 8)) t := by
      intro t kt
      refine pre2 _ ?_
      show Steps p.tables e below (s₁.setTop (mkF m 33 #[rv r0, iv (0 : Int32), iv (3 : Int32), iv p3, iv (0 : Int32), iv (2 : Int32), iv (1 : Int32), iv x1] [(.int p3), (.int x1)])) _
      refine XS.icmpYes X0.here hx rfl (pc0 := 33) (pc' := 45) rfl (hb hby d8_33) rfl (flt hc33).2.1 (by decide) (by decide) ?_
      refine XS.iload X0.here hx rfl (hb hby d8_45) rfl ?_
      refine XS.iloadN X0.here hx rfl (hb hby d8_47) rfl ?_
      exact kt
    by_cases hc48 : p3 < x1
    · obtain ⟨cl11, Ar11, q11, S11, M11, H11, G11⟩ := id V_r0
      have hin11 : ¬ ((0 : Int32) < 0 ∨ cl11.slots.size ≤ ((0 : Int32)).toNatClampNeg) := inb_of S11 ⟨by decide, by decide⟩
      have hat11 : cl11.slots[((0 : Int32)).toNatClampNeg]? = some (.int x0) := H11.at hin11 rfl
      have pre12 : ∀ t, Steps p.tables e below (s₁.setTop (mkF m 33 #[rv r0, iv (0 : Int32), iv (3 : Int32), iv p3, iv (0 : Int32), iv (0 : Int32), iv (0 : Int32), iv x0] [(.int p3), (.int x0)])) t → Steps p.tables e below (s₁.setTop (entryFrame m #[(.ref r0), (.int (0 : Int32)), (.int (3 : Int32)), (.int p3)] 8)) t := by
        intro t kt
        refine pre10 _ ?_
        show Steps p.tables e below (s₁.setTop (mkF m 48 #[rv r0, iv (0 : Int32), iv (3 : Int32), iv p3, iv (0 : Int32), iv (2 : Int32), iv (1 : Int32), iv x1] [(.int p3), (.int x1)])) _
        refine XS.icmpNo X0.here hx rfl (hb hby d8_48) rfl (tlt hc48).2.2.2 ?_
        refine XS.iload X0.here hx rfl (hb hby d8_51) rfl ?_
        refine XS.iconst X0.here hx rfl (hb hby d8_53) ?_
        refine XS.isub X0.here hx rfl (hb hby d8_54) rfl ?_
        show Steps p.tables e below (s₁.setTop (mkF m 55 #[rv r0, iv (0 : Int32), iv (3 : Int32), iv p3, iv (0 : Int32), iv (2 : Int32), iv (1 : Int32), iv x1] [(.int ((1 : Int32) - (1 : Int32)))])) _
        rw [show ((1 : Int32) - (1 : Int32)) = (0 : Int32) from (by decide)]
        show Steps p.tables e below (s₁.setTop (mkF m 55 #[rv r0, iv (0 : Int32), iv (3 : Int32), iv p3, iv (0 : Int32), iv (2 : Int32), iv (1 : Int32), iv x1] [(.int (0 : Int32))])) _
        refine XS.istore X0.here hx rfl (hb hby d8_55) rfl (l' := #[rv r0, iv (0 : Int32), iv (3 : Int32), iv p3, iv (0 : Int32), iv (0 : Int32), iv (1 : Int32), iv x1]) rfl ?_
        refine XS.goto X0.here hx rfl (pc0 := 57) (pc' := 63) rfl (hb hby d8_57) (by decide) (by decide) ?_
        refine XS.goto X0.here hx rfl (pc0 := 63) (pc' := 8) rfl (hb hby d8_63) (by decide) (by decide) ?_
        refine XS.iload X0.here hx rfl (hb hby d8_8) rfl ?_
        refine XS.iload X0.here hx rfl (hb hby d8_10) rfl ?_
        refine XS.icmpNo X0.here hx rfl (hb hby d8_12) rfl (flt (by decide)).2.2.1 ?_
        refine XS.iload X0.here hx rfl (hb hby d8_15) rfl ?_
        refine XS.iload X0.here hx rfl (hb hby d8_17) rfl ?_
        show Steps p.tables e below (s₁.setTop (mkF m 19 #[rv r0, iv (0 : Int32), iv (3 : Int32), iv p3, iv (0 : Int32), iv (0 : Int32), iv (1 : Int32), iv x1] [(.int (0 : Int32)), (.int (0 : Int32))])) _
        refine XS.iadd X0.here hx rfl (hb hby d8_19) rfl ?_
        show Steps p.tables e below (s₁.setTop (mkF m 20 #[rv r0, iv (0 : Int32), iv (3 : Int32), iv p3, iv (0 : Int32), iv (0 : Int32), iv (1 : Int32), iv x1] [(.int ((0 : Int32) + (0 : Int32)))])) _
        rw [show ((0 : Int32) + (0 : Int32)) = (0 : Int32) from (by decide)]
        show Steps p.tables e below (s₁.setTop (mkF m 20 #[rv r0, iv (0 : Int32), iv (3 : Int32), iv p3, iv (0 : Int32), iv (0 : Int32), iv (1 : Int32), iv x1] [(.int (0 : Int32))])) _
        refine XS.iconst X0.here hx rfl (hb hby d8_20) ?_
        refine XS.iushr X0.here hx rfl (hb hby d8_21) rfl ?_
        show Steps p.tables e below (s₁.setTop (mkF m 22 #[rv r0, iv (0 : Int32), iv (3 : Int32), iv p3, iv (0 : Int32), iv (0 : Int32), iv (1 : Int32), iv x1] [(.int (((0 : Int32).toUInt32 >>> ((1 : Int32) &&& 31).toUInt32).toInt32))])) _
        rw [show (((0 : Int32).toUInt32 >>> ((1 : Int32) &&& 31).toUInt32).toInt32) = (0 : Int32) from (by decide)]
        show Steps p.tables e below (s₁.setTop (mkF m 22 #[rv r0, iv (0 : Int32), iv (3 : Int32), iv p3, iv (0 : Int32), iv (0 : Int32), iv (1 : Int32), iv x1] [(.int (0 : Int32))])) _
        refine XS.istore X0.here hx rfl (hb hby d8_22) rfl (l' := #[rv r0, iv (0 : Int32), iv (3 : Int32), iv p3, iv (0 : Int32), iv (0 : Int32), iv (0 : Int32), iv x1]) rfl ?_
        refine XS.aloadN X0.here hx rfl (hb hby d8_24) rfl rfl ?_
        refine XS.iload X0.here hx rfl (hb hby d8_25) rfl ?_
        refine X0.iaload hx (j := (0 : Int32)) (v := (.int x0)) (by rw [e0]; exact Ar11.1) (State.isArrayOf_alike hZ.alike Ar11.2.1) Ar11.2.2 hin11 hat11 (g := (mkF m 27 #[rv r0, iv (0 : Int32), iv (3 : Int32), iv p3, iv (0 : Int32), iv (0 : Int32), iv (0 : Int32), iv x1] [(.int (0 : Int32)), (.ref r0)])) rfl rfl (hb hby d8_27) _ ?_
        show Steps p.tables e below (s₁.setTop (mkF m 28 #[rv r0, iv (0 : Int32), iv (3 : Int32), iv p3, iv (0 : Int32), iv (0 : Int32), iv (0 : Int32), iv x1] [(.int x0)])) _
        refine XS.istore X0.here hx rfl (hb hby d8_28) rfl (l' := #[rv r0, iv (0 : Int32), iv (3 : Int32), iv p3, iv (0 : Int32), iv (0 : Int32), iv (0 : Int32), iv x0]) rfl ?_
        refine XS.iload X0.here hx rfl (hb hby d8_30) rfl ?_
        refine XS.iloadN X0.here hx rfl (hb hby d8_32) rfl ?_
        exact kt
      by_cases hc33_13 : x0 < p3
      · have pre14 : ∀ t, Steps p.tables e below (s₁.setTop (mkF m 71 #[rv r0, iv (0 : Int32), iv (3 : Int32), iv p3, iv (1 : Int32), iv (0 : Int32), iv (0 : Int32), iv x0] [(.int (-2 : Int32))])) t → Steps p.tables e below (s₁.setTop (entryFrame m #[(.ref r0), (.int (0 : Int32)), (.int (3 : Int32)), (.int p3)] 8)) t := by
          intro t kt
          refine pre12 _ ?_
          show Steps p.tables e below (s₁.setTop (mkF m 33 #[rv r0, iv (0 : Int32), iv (3 : Int32), iv p3, iv (0 : Int32), iv (0 : Int32), iv (0 : Int32), iv x0] [(.int p3), (.int x0)])) _
          refine XS.icmpNo X0.here hx rfl (hb hby d8_33) rfl (tlt hc33_13).2.1 ?_
          refine XS.iload X0.here hx rfl (hb hby d8_36) rfl ?_
          refine XS.iconst X0.here hx rfl (hb hby d8_38) ?_
          refine XS.iadd X0.here hx rfl (hb hby d8_39) rfl ?_
          show Steps p.tables e below (s₁.setTop (mkF m 40 #[rv r0, iv (0 : Int32), iv (3 : Int32), iv p3, iv (0 : Int32), iv (0 : Int32), iv (0 : Int32), iv x0] [(.int ((0 : Int32) + (1 : Int32)))])) _
          rw [show ((0 : Int32) + (1 : Int32)) = (1 : Int32) from (by decide)]
          show Steps p.tables e below (s₁.setTop (mkF m 40 #[rv r0, iv (0 : Int32), iv (3 : Int32), iv p3, iv (0 : Int32), iv (0 : Int32), iv (0 : Int32), iv x0] [(.int (1 : Int32))])) _
          refine XS.istore X0.here hx rfl (hb hby d8_40) rfl (l' := #[rv r0, iv (0 : Int32), iv (3 : Int32), iv p3, iv (1 : Int32), iv (0 : Int32), iv (0 : Int32), iv x0]) rfl ?_
          refine XS.goto X0.here hx rfl (pc0 := 42) (pc' := 63) rfl (hb hby d8_42) (by decide) (by decide) ?_
          refine XS.goto X0.here hx rfl (pc0 := 63) (pc' := 8) rfl (hb hby d8_63) (by decide) (by decide) ?_
          refine XS.iload X0.here hx rfl (hb hby d8_8) rfl ?_
          refine XS.iload X0.here hx rfl (hb hby d8_10) rfl ?_
          refine XS.icmpYes X0.here hx rfl (pc0 := 12) (pc' := 66) rfl (hb hby d8_12) rfl (tlt (by decide)).2.2.1 (by decide) (by decide) ?_
          refine XS.iload X0.here hx rfl (hb hby d8_66) rfl ?_
          refine XS.iconst X0.here hx rfl (hb hby d8_68) ?_
          show Steps p.tables e below (s₁.setTop (mkF m 69 #[rv r0, iv (0 : Int32), iv (3 : Int32), iv p3, iv (1 : Int32), iv (0 : Int32), iv (0 : Int32), iv x0] [(.int (1 : Int32)), (.int (1 : Int32))])) _
          refine XS.iadd X0.here hx rfl (hb hby d8_69) rfl ?_
          show Steps p.tables e below (s₁.setTop (mkF m 70 #[rv r0, iv (0 : Int32), iv (3 : Int32), iv p3, iv (1 : Int32), iv (0 : Int32), iv (0 : Int32), iv x0] [(.int ((1 : Int32) + (1 : Int32)))])) _
          rw [show ((1 : Int32) + (1 : Int32)) = (2 : Int32) from (by decide)]
          show Steps p.tables e below (s₁.setTop (mkF m 70 #[rv r0, iv (0 : Int32), iv (3 : Int32), iv p3, iv (1 : Int32), iv (0 : Int32), iv (0 : Int32), iv x0] [(.int (2 : Int32))])) _
          refine XS.ineg X0.here hx rfl (hb hby d8_70) rfl ?_
          show Steps p.tables e below (s₁.setTop (mkF m 71 #[rv r0, iv (0 : Int32), iv (3 : Int32), iv p3, iv (1 : Int32), iv (0 : Int32), iv (0 : Int32), iv x0] [(.int (-(2 : Int32)))])) _
          rw [show (-(2 : Int32)) = (-2 : Int32) from (by decide)]
          exact kt
        obtain ⟨fs, hr, hrun, hended, hW, hsame⟩ := X0.leave (v := some (.int (-2 : Int32))) (fun h => by rw [Bd.returns] at h; cases h)
        refine ⟨_, _, pre14 _ ?_, hrun, hended, _, _, rfl, ?_, ⟨_, rfl⟩, hW, hsame.mono (by decide) (by decide)⟩
        · show Steps p.tables e below (s₁.setTop (mkF m 71 #[rv r0, iv (0 : Int32), iv (3 : Int32), iv p3, iv (1 : Int32), iv (0 : Int32), iv (0 : Int32), iv x0] [(.int (-2 : Int32))])) _
          exact retI X0 hx Bd.returns (hb hby d8_71) hr
        · show Q8c3 Z r0 p3 kc x0 x1 x2 x3 h0 n0 _ s₁.heap _
          rw [e0]
          exact ⟨congrArg (fun z => some (Value.int z)) ((if_neg hc33).trans ((if_pos hc48).trans ((if_pos hc33_13).trans rfl))).symm, N0, rfl⟩
      · have pre15 : ∀ t, Steps p.tables e below (s₁.setTop (mkF m 48 #[rv r0, iv (0 : Int32), iv (3 : Int32), iv p3, iv (0 : Int32), iv (0 : Int32), iv (0 : Int32), iv x0] [(.int p3), (.int x0)])) t → Steps p.tables e below (s₁.setTop (entryFrame m #[(.ref r0), (.int (0 : Int32)), (.int (3 : Int32)), (.int p3)] 8)) t := by
          intro t kt
          refine pre12 _ ?_
          show Steps p.tables e below (s₁.setTop (mkF m 33 #[rv r0, iv (0 : Int32), iv (3 : Int32), iv p3, iv (0 : Int32), iv (0 : Int32), iv (0 : Int32), iv x0] [(.int p3), (.int x0)])) _
          refine XS.icmpYes X0.here hx rfl (pc0 := 33) (pc' := 45) rfl (hb hby d8_33) rfl (flt hc33_13).2.1 (by decide) (by decide) ?_
          refine XS.iload X0.here hx rfl (hb hby d8_45) rfl ?_
          refine XS.iloadN X0.here hx rfl (hb hby d8_47) rfl ?_
          exact kt
        by_cases hc48_16 : p3 < x0
        · have pre17 : ∀ t, Steps p.tables e below (s₁.setTop (mkF m 71 #[rv r0, iv (0 : Int32), iv (3 : Int32), iv p3, iv (0 : Int32), iv (-1 : Int32), iv (0 : Int32), iv x0] [(.int (-1 : Int32))])) t → Steps p.tables e below (s₁.setTop (entryFrame m #[(.ref r0), (.int (0 : Int32)), (.int (3 : Int32)), (.int p3)] 8)) t := by
            intro t kt
            refine pre15 _ ?_
            show Steps p.tables e below (s₁.setTop (mkF m 48 #[rv r0, iv (0 : Int32), iv (3 : Int32), iv p3, iv (0 : Int32), iv (0 : Int32), iv (0 : Int32), iv x0] [(.int p3), (.int x0)])) _
            refine XS.icmpNo X0.here hx rfl (hb hby d8_48) rfl (tlt hc48_16).2.2.2 ?_
            refine XS.iload X0.here hx rfl (hb hby d8_51) rfl ?_
            refine XS.iconst X0.here hx rfl (hb hby d8_53) ?_
            refine XS.isub X0.here hx rfl (hb hby d8_54) rfl ?_
            show Steps p.tables e below (s₁.setTop (mkF m 55 #[rv r0, iv (0 : Int32), iv (3 : Int32), iv p3, iv (0 : Int32), iv (0 : Int32), iv (0 : Int32), iv x0] [(.int ((0 : Int32) - (1 : Int32)))])) _
            rw [show ((0 : Int32) - (1 : Int32)) = (-1 : Int32) from (by decide)]
            show Steps p.tables e below (s₁.setTop (mkF m 55 #[rv r0, iv (0 : Int32), iv (3 : Int32), iv p3, iv (0 : Int32), iv (0 : Int32), iv (0 : Int32), iv x0] [(.int (-1 : Int32))])) _
            refine XS.istore X0.here hx rfl (hb hby d8_55) rfl (l' := #[rv r0, iv (0 : Int32), iv (3 : Int32), iv p3, iv (0 : Int32), iv (-1 : Int32), iv (0 : Int32), iv x0]) rfl ?_
            refine XS.goto X0.here hx rfl (pc0 := 57) (pc' := 63) rfl (hb hby d8_57) (by decide) (by decide) ?_
            refine XS.goto X0.here hx rfl (pc0 := 63) (pc' := 8) rfl (hb hby d8_63) (by decide) (by decide) ?_
            refine XS.iload X0.here hx rfl (hb hby d8_8) rfl ?_
            refine XS.iload X0.here hx rfl (hb hby d8_10) rfl ?_
            refine XS.icmpYes X0.here hx rfl (pc0 := 12) (pc' := 66) rfl (hb hby d8_12) rfl (tlt (by decide)).2.2.1 (by decide) (by decide) ?_
            refine XS.iload X0.here hx rfl (hb hby d8_66) rfl ?_
            refine XS.iconst X0.here hx rfl (hb hby d8_68) ?_
            show Steps p.tables e below (s₁.setTop (mkF m 69 #[rv r0, iv (0 : Int32), iv (3 : Int32), iv p3, iv (0 : Int32), iv (-1 : Int32), iv (0 : Int32), iv x0] [(.int (1 : Int32)), (.int (0 : Int32))])) _
            refine XS.iadd X0.here hx rfl (hb hby d8_69) rfl ?_
            show Steps p.tables e below (s₁.setTop (mkF m 70 #[rv r0, iv (0 : Int32), iv (3 : Int32), iv p3, iv (0 : Int32), iv (-1 : Int32), iv (0 : Int32), iv x0] [(.int ((0 : Int32) + (1 : Int32)))])) _
            rw [show ((0 : Int32) + (1 : Int32)) = (1 : Int32) from (by decide)]
            show Steps p.tables e below (s₁.setTop (mkF m 70 #[rv r0, iv (0 : Int32), iv (3 : Int32), iv p3, iv (0 : Int32), iv (-1 : Int32), iv (0 : Int32), iv x0] [(.int (1 : Int32))])) _
            refine XS.ineg X0.here hx rfl (hb hby d8_70) rfl ?_
            show Steps p.tables e below (s₁.setTop (mkF m 71 #[rv r0, iv (0 : Int32), iv (3 : Int32), iv p3, iv (0 : Int32), iv (-1 : Int32), iv (0 : Int32), iv x0] [(.int (-(1 : Int32)))])) _
            rw [show (-(1 : Int32)) = (-1 : Int32) from (by decide)]
            exact kt
          obtain ⟨fs, hr, hrun, hended, hW, hsame⟩ := X0.leave (v := some (.int (-1 : Int32))) (fun h => by rw [Bd.returns] at h; cases h)
          refine ⟨_, _, pre17 _ ?_, hrun, hended, _, _, rfl, ?_, ⟨_, rfl⟩, hW, hsame.mono (by decide) (by decide)⟩
          · show Steps p.tables e below (s₁.setTop (mkF m 71 #[rv r0, iv (0 : Int32), iv (3 : Int32), iv p3, iv (0 : Int32), iv (-1 : Int32), iv (0 : Int32), iv x0] [(.int (-1 : Int32))])) _
            exact retI X0 hx Bd.returns (hb hby d8_71) hr
          · show Q8c3 Z r0 p3 kc x0 x1 x2 x3 h0 n0 _ s₁.heap _
            rw [e0]
            exact ⟨congrArg (fun z => some (Value.int z)) ((if_neg hc33).trans ((if_pos hc48).trans ((if_neg hc33_13).trans ((if_pos hc48_16).trans rfl)))).symm, N0, rfl⟩
        · have pre18 : ∀ t, Steps p.tables e below (s₁.setTop (mkF m 62 #[rv r0, iv (0 : Int32), iv (3 : Int32), iv p3, iv (0 : Int32), iv (0 : Int32), iv (0 : Int32), iv x0] [(.int (0 : Int32))])) t → Steps p.tables e below (s₁.setTop (entryFrame m #[(.ref r0), (.int (0 : Int32)), (.int (3 : Int32)), (.int p3)] 8)) t := by
            intro t kt
            refine pre15 _ ?_
            show Steps p.tables e below (s₁.setTop (mkF m 48 #[rv r0, iv (0 : Int32), iv (3 : Int32), iv p3, iv (0 : Int32), iv (0 : Int32), iv (0 : Int32), iv x0] [(.int p3), (.int x0)])) _
            refine XS.icmpYes X0.here hx rfl (pc0 := 48) (pc' := 60) rfl (hb hby d8_48) rfl (flt hc48_16).2.2.2 (by decide) (by decide) ?_
            refine XS.iload X0.here hx rfl (hb hby d8_60) rfl ?_
            exact kt
          obtain ⟨fs, hr, hrun, hended, hW, hsame⟩ := X0.leave (v := some (.int (0 : Int32))) (fun h => by rw [Bd.returns] at h; cases h)
          refine ⟨_, _, pre18 _ ?_, hrun, hended, _, _, rfl, ?_, ⟨_, rfl⟩, hW, hsame.mono (by decide) (by decide)⟩
          · show Steps p.tables e below (s₁.setTop (mkF m 62 #[rv r0, iv (0 : Int32), iv (3 : Int32), iv p3, iv (0 : Int32), iv (0 : Int32), iv (0 : Int32), iv x0] [(.int (0 : Int32))])) _
            exact retI X0 hx Bd.returns (hb hby d8_62) hr
          · show Q8c3 Z r0 p3 kc x0 x1 x2 x3 h0 n0 _ s₁.heap _
            rw [e0]
            exact ⟨congrArg (fun z => some (Value.int z)) ((if_neg hc33).trans ((if_pos hc48).trans ((if_neg hc33_13).trans ((if_neg hc48_16).trans rfl)))).symm, N0, rfl⟩
    · have pre19 : ∀ t, Steps p.tables e below (s₁.setTop (mkF m 62 #[rv r0, iv (0 : Int32), iv (3 : Int32), iv p3, iv (0 : Int32), iv (2 : Int32), iv (1 : Int32), iv x1] [(.int (1 : Int32))])) t → Steps p.tables e below (s₁.setTop (entryFrame m #[(.ref r0), (.int (0 : Int32)), (.int (3 : Int32)), (.int p3)] 8)) t := by
        intro t kt
        refine pre10 _ ?_
        show Steps p.tables e below (s₁.setTop (mkF m 48 #[rv r0, iv (0 : Int32), iv (3 : Int32), iv p3, iv (0 : Int32), iv (2 : Int32), iv (1 : Int32), iv x1] [(.int p3), (.int x1)])) _
        refine XS.icmpYes X0.here hx rfl (pc0 := 48) (pc' := 60) rfl (hb hby d8_48) rfl (flt hc48).2.2.2 (by decide) (by decide) ?_
        refine XS.iload X0.here hx rfl (hb hby d8_60) rfl ?_
        exact kt
      obtain ⟨fs, hr, hrun, hended, hW, hsame⟩ := X0.leave (v := some (.int (1 : Int32))) (fun h => by rw [Bd.returns] at h; cases h)
      refine ⟨_, _, pre19 _ ?_, hrun, hended, _, _, rfl, ?_, ⟨_, rfl⟩, hW, hsame.mono (by decide) (by decide)⟩
      · show Steps p.tables e below (s₁.setTop (mkF m 62 #[rv r0, iv (0 : Int32), iv (3 : Int32), iv p3, iv (0 : Int32), iv (2 : Int32), iv (1 : Int32), iv x1] [(.int (1 : Int32))])) _
        exact retI X0 hx Bd.returns (hb hby d8_62) hr
      · show Q8c3 Z r0 p3 kc x0 x1 x2 x3 h0 n0 _ s₁.heap _
        rw [e0]
        exact ⟨congrArg (fun z => some (Value.int z)) ((if_neg hc33).trans ((if_neg hc48).trans rfl)).symm, N0, rfl⟩

theorem ef_6c3 (m : MethodId) (x0 : Addr) (x1 : Int32) (x2 : Int32) (x3 : Int32) : entryFrame m #[(.ref x0), (.int x1), (.int x2), (.int x3)] 4 = mkF m 0 #[.val (.ref x0), .val (.int x1), .val (.int x2), .val (.int x3)] [] := by first | (simp [entryFrame, mkF, argsToLocals, Value.category]; done) | rfl
def Q6c3 (Z : State) (r0 : Addr) (p3 : Int32) (kc : ClassId) (x0 : Int32) (x1 : Int32) (x2 : Int32) (x3 : Int32) (h0 : Heap) (n0 : Nat) (v : Option Value) (h : Heap) (L : List Loc) : Prop := v = some (.int (own_bs3 p3 x0 x1 x2 x3)) ∧ Fr n0 L ∧ h = h0
set_option maxRecDepth 65536 in
set_option maxHeartbeats 40000000 in
theorem rm6c3 (l : Launch) (Z : State) (a0 : Array Value) (hw : ∀ d ∈ tables_1, d.before a0 Z = true) (ws : List Jvm.Cond) (r0 : Addr) (p3 : Int32) (kc : ClassId) (x0 : Int32) (x1 : Int32) (x2 : Int32) (x3 : Int32) (h0 : Heap) (n0 : Nat) (Z0 : n0 ≤ h0.size) (V_r0 : Arv Z h0 r0 kc .int (16 : Int32) [(.int x0), (.int x1), (.int x2), (.int x3), (.int (0 : Int32)), (.int (0 : Int32)), (.int (0 : Int32)), (.int (0 : Int32)), (.int (0 : Int32)), (.int (0 : Int32)), (.int (0 : Int32)), (.int (0 : Int32)), (.int (0 : Int32)), (.int (0 : Int32)), (.int (0 : Int32)), (.int (0 : Int32))] (.int (0 : Int32))) :
    MetFree l (⟨"java/util/Arrays", "binarySearch", "([IIII)I"⟩ : MethodName) (head1 (Jvm.Cond.code (⟨"java/util/Arrays", "binarySearch", "([IIII)I"⟩ : MethodName) jdk_65_method_58_code 4 (some .int) :: ws) ({ frames := 1, cells := 0, slots := 0, locals := 19 } : Room)) (fun a U => a = #[(.ref r0), (.int (0 : Int32)), (.int (3 : Int32)), (.int p3)] ∧ Z.Warmed39 U.vm ∧ U.heap = h0) (fun _ _ _ _ _ => True) (fun _ U o U' => ∃ v L, o = .returned v ∧ Q6c3 Z r0 p3 kc x0 x1 x2 x3 h0 n0 v U'.heap L ∧ FrameEnd U o U' L ({ frames := 1, cells := 0, slots := 0, locals := 19 } : Room).cells ({ frames := 1, cells := 0, slots := 0, locals := 19 } : Room).slots) := by
  refine MetFree.of_bodySF (plainFor_of_name pn1) hisR ?_
  intro p e s m args below meth c s₁ Bd hml0 hP hK
  obtain ⟨rfl, hZ, hh⟩ := hP
  have hx := Bd.exec
  have hby := Bd.bytes
  have hml : c.maxLocals = 4 := hml0
  have hown : s.vm.findClass "java/util/Arrays" = some m.cls := findClass_of_methodNamed Bd.named
  have hnm := (name_of_methodNamed Bd.named Bd.method).1
  have X0 : Stand p l e ({ frames := 1, cells := 0, slots := 0, locals := 19 } : Room) s m #[(.ref r0), (.int (0 : Int32)), (.int (3 : Int32)), (.int p3)] below meth c s₁ [] 0 0 := Stand.of_body Bd
  have e0 : s₁.heap = h0 := by rw [← hh, Bd.state]; rfl
  have N0 := Fr.nil n0
  have pre0 : ∀ t, Steps p.tables e below (s₁.setTop (mkF m 0 #[rv r0, iv (0 : Int32), iv (3 : Int32), iv p3] [])) t → Steps p.tables e below (s₁.setTop (entryFrame m #[(.ref r0), (.int (0 : Int32)), (.int (3 : Int32)), (.int p3)] 4)) t := fun t k => castTop (ef_6c3 m r0 (0 : Int32) (3 : Int32) p3) k
  obtain ⟨cl1, Ar1, -, S1, M1, -, -⟩ := id V_r0
  have pre2 : ∀ t, Steps p.tables e below (s₁.setTop (mkF m 4 #[rv r0, iv (0 : Int32), iv (3 : Int32), iv p3] [(.int (3 : Int32)), (.int (0 : Int32)), (.int (16 : Int32))])) t → Steps p.tables e below (s₁.setTop (entryFrame m #[(.ref r0), (.int (0 : Int32)), (.int (3 : Int32)), (.int p3)] 4)) t := by
    intro t kt
    refine pre0 _ ?_
    show Steps p.tables e below (s₁.setTop (mkF m 0 #[rv r0, iv (0 : Int32), iv (3 : Int32), iv p3] [])) _
    refine XS.aloadN X0.here hx rfl (hb hby d6_0) rfl rfl ?_
    refine X0.arraylength hx (by rw [e0]; exact Ar1.1) (State.isArrayOf_alike hZ.alike Ar1.2.1) (g := (mkF m 1 #[rv r0, iv (0 : Int32), iv (3 : Int32), iv p3] [(.ref r0)])) rfl rfl (hb hby d6_1) _ ?_
    rw [len_of S1 M1]
    show Steps p.tables e below (s₁.setTop (mkF m 2 #[rv r0, iv (0 : Int32), iv (3 : Int32), iv p3] [(.int (16 : Int32))])) _
    refine XS.iloadN X0.here hx rfl (hb hby d6_2) rfl ?_
    refine XS.iloadN X0.here hx rfl (hb hby d6_3) rfl ?_
    exact kt
  obtain ⟨_, _, ⟨T3, L3, k3, n3⟩, -, X3, ⟨Lc3, hQ3, l3, y3, z3⟩, st3⟩ := Jvm.LawKit.callS X0 hx (y := (⟨"java/util/Arrays", "rangeCheck", "(III)V"⟩ : MethodName)) hown (mvT hZ (hw _ (List.mem_of_getElem? (i := 34) rfl))) (mvT hZ (hw _ (List.mem_of_getElem? (i := 35) rfl))) (mvT hZ (hw _ (List.mem_of_getElem? (i := 32) rfl))) (mvT hZ (hw _ (List.mem_of_getElem? (i := 36) rfl))) (by decide) (backOf (W := 0) (rm7c3 l Z a0 hw []  h0 n0 (Nat.le_trans Z0 (Keep.refl h0 []).1)) hZ (hw _ (List.mem_of_getElem? (i := 36) rfl)) (hw _ (List.mem_of_getElem? (i := 32) rfl)) (by decide) (by decide)) (g := (mkF m 4 #[rv r0, iv (0 : Int32), iv (3 : Int32), iv p3] [(.int (3 : Int32)), (.int (0 : Int32)), (.int (16 : Int32))])) rfl (by rw [hml]; rfl) (argsL := [(.int (16 : Int32)), (.int (0 : Int32)), (.int (3 : Int32))]) (rest := []) (lenOf pd2 rfl) rfl (by show 2 * 0 + _ ≤ _; exact Nat.le_of_eq rfl) (hb hby d6_4) (fun _ _ => ⟨rfl, e0, (by decide : 0 + 0 ≤ _), (by decide : 0 + 0 ≤ _)⟩)
  dsimp only [Pt.U, Pt.locs, Pt.cells, Pt.slots] at X3 l3 y3 z3 st3 hQ3
  subst l3 y3 z3
  obtain ⟨rfl, N3q, hh3⟩ := hQ3
  have N3 := Fr.app N0 N3q
  have pre4 : ∀ t, Steps p.tables e below (T3.setTop (mkF m 11 #[rv r0, iv (0 : Int32), iv (3 : Int32), iv p3] [(.int p3), (.int (3 : Int32)), (.int (0 : Int32)), (.ref r0)])) t → Steps p.tables e below (s₁.setTop (entryFrame m #[(.ref r0), (.int (0 : Int32)), (.int (3 : Int32)), (.int p3)] 4)) t := by
    intro t kt
    refine pre2 _ ?_
    show Steps p.tables e below (s₁.setTop (mkF m 4 #[rv r0, iv (0 : Int32), iv (3 : Int32), iv p3] [(.int (3 : Int32)), (.int (0 : Int32)), (.int (16 : Int32))])) _
    refine st3 _ ?_
    show Steps p.tables e below (T3.setTop (mkF m 7 #[rv r0, iv (0 : Int32), iv (3 : Int32), iv p3] [])) _
    refine XS.aloadN X3.here hx rfl (hb hby d6_7) rfl rfl ?_
    refine XS.iloadN X3.here hx rfl (hb hby d6_8) rfl ?_
    refine XS.iloadN X3.here hx rfl (hb hby d6_9) rfl ?_
    refine XS.iloadN X3.here hx rfl (hb hby d6_10) rfl ?_
    exact kt
  obtain ⟨_, _, ⟨T5, L5, k5, n5⟩, -, X5, ⟨Lc5, hQ5, l5, y5, z5⟩, st5⟩ := Jvm.LawKit.callS X3 hx (y := (⟨"java/util/Arrays", "binarySearch0", "([IIII)I"⟩ : MethodName)) hown (mvT hZ (hw _ (List.mem_of_getElem? (i := 37) rfl))) (mvT hZ (hw _ (List.mem_of_getElem? (i := 38) rfl))) (mvT hZ (hw _ (List.mem_of_getElem? (i := 32) rfl))) (mvT hZ (hw _ (List.mem_of_getElem? (i := 39) rfl))) (by decide) (backOf (W := 0) (rm8c3 l Z a0 hw [] r0 p3 kc x0 x1 x2 x3 h0 n0 (Nat.le_trans Z0 (Keep.refl h0 []).1) V_r0) hZ (hw _ (List.mem_of_getElem? (i := 39) rfl)) (hw _ (List.mem_of_getElem? (i := 32) rfl)) (by decide) (by decide)) (g := (mkF m 11 #[rv r0, iv (0 : Int32), iv (3 : Int32), iv p3] [(.int p3), (.int (3 : Int32)), (.int (0 : Int32)), (.ref r0)])) rfl (by rw [hml]; rfl) (argsL := [(.ref r0), (.int (0 : Int32)), (.int (3 : Int32)), (.int p3)]) (rest := []) (lenOf pd3 rfl) rfl (by show 2 * 0 + _ ≤ _; exact Nat.le_of_eq rfl) (hb hby d6_11) (fun _ _ => ⟨rfl, hh3, (by decide : 0 + 0 ≤ _), (by decide : 0 + 0 ≤ _)⟩)
  dsimp only [Pt.U, Pt.locs, Pt.cells, Pt.slots] at X5 l5 y5 z5 st5 hQ5
  subst l5 y5 z5
  obtain ⟨rfl, N5q, hh5⟩ := hQ5
  have N5 := Fr.app N3 N5q
  have pre6 : ∀ t, Steps p.tables e below (T5.setTop (mkF m 14 #[rv r0, iv (0 : Int32), iv (3 : Int32), iv p3] [(.int (own_bs3 p3 x0 x1 x2 x3))])) t → Steps p.tables e below (s₁.setTop (entryFrame m #[(.ref r0), (.int (0 : Int32)), (.int (3 : Int32)), (.int p3)] 4)) t := by
    intro t kt
    refine pre4 _ ?_
    show Steps p.tables e below (T3.setTop (mkF m 11 #[rv r0, iv (0 : Int32), iv (3 : Int32), iv p3] [(.int p3), (.int (3 : Int32)), (.int (0 : Int32)), (.ref r0)])) _
    refine st5 _ ?_
    exact kt
  obtain ⟨fs, hr, hrun, hended, hW, hsame⟩ := X5.leave (v := some (.int (own_bs3 p3 x0 x1 x2 x3))) (fun h => by rw [Bd.returns] at h; cases h)
  refine ⟨_, _, pre6 _ ?_, hrun, hended, _, _, rfl, ?_, ⟨_, rfl⟩, hW, hsame.mono (by decide) (by decide)⟩
  · show Steps p.tables e below (T5.setTop (mkF m 14 #[rv r0, iv (0 : Int32), iv (3 : Int32), iv p3] [(.int (own_bs3 p3 x0 x1 x2 x3))])) _
    exact retI X5 hx Bd.returns (hb hby d6_14) hr
  · show Q6c3 Z r0 p3 kc x0 x1 x2 x3 h0 n0 _ T5.heap _
    rw [hh5]
    exact ⟨rfl, N5, rfl⟩
def own_ix3 (key : Int32) (x0 : Int32) (x1 : Int32) (x2 : Int32) (x3 : Int32) : Int32 := if (own_bs3 key x0 x1 x2 x3) < (0 : Int32) then (-1) else (own_bs3 key x0 x1 x2 x3)

theorem ef_5c3 (m : MethodId) (x0 : Addr) (x1 : Int32) (x2 : Int32) : entryFrame m #[(.ref x0), (.int x1), (.int x2)] 6 = mkF m 0 #[.val (.ref x0), .val (.int x1), .val (.int x2), .unset, .unset, .unset] [] := by first | (simp [entryFrame, mkF, argsToLocals, Value.category]; done) | rfl
def Q5c3 (Z : State) (r0 : Addr) (p1 : Int32) (p2 : Int32) (ab : Addr) (kc : ClassId) (x0 : Int32) (x1 : Int32) (x2 : Int32) (x3 : Int32) (key : Int32) (h0 : Heap) (n0 : Nat) (v : Option Value) (h : Heap) (L : List Loc) : Prop := v = some (.int (own_ix3 key x0 x1 x2 x3)) ∧ Fr n0 L ∧ h = h0
set_option maxRecDepth 65536 in
set_option maxHeartbeats 40000000 in
theorem rm5c3 (l : Launch) (Z : State) (a0 : Array Value) (hw : ∀ d ∈ tables_1, d.before a0 Z = true) (ws : List Jvm.Cond) (r0 : Addr) (p1 : Int32) (p2 : Int32) (ab : Addr) (kc : ClassId) (x0 : Int32) (x1 : Int32) (x2 : Int32) (x3 : Int32) (key : Int32) (h0 : Heap) (n0 : Nat) (Z0 : n0 ≤ h0.size) (F_offsets_r0 : Fld Z h0 r0 "com/example/bytewright/bytewright/grid/ObjectStarts" "offsets" "[I" (.ref ab)) (F_count_r0 : Fld Z h0 r0 "com/example/bytewright/bytewright/grid/ObjectStarts" "count" "I" (.int (3 : Int32))) (E_r0 : Exa Z h0 r0 "com/example/bytewright/bytewright/grid/ObjectStarts") (V_ab : Arv Z h0 ab kc .int (16 : Int32) [(.int x0), (.int x1), (.int x2), (.int x3), (.int (0 : Int32)), (.int (0 : Int32)), (.int (0 : Int32)), (.int (0 : Int32)), (.int (0 : Int32)), (.int (0 : Int32)), (.int (0 : Int32)), (.int (0 : Int32)), (.int (0 : Int32)), (.int (0 : Int32)), (.int (0 : Int32)), (.int (0 : Int32))] (.int (0 : Int32))) (hne : r0 ≠ ab) (hkey : (p1.toInt64 - p2.toInt64) = key.toInt64) (hk0 : ¬ ((lcmpW key.toInt64 (0 : Int64)) < (0 : Int32))) (hk1 : (lcmpW key.toInt64 p1.toInt64) < (0 : Int32)) :
    MetFree l (⟨"com/example/bytewright/bytewright/grid/ObjectStarts", "indexOf", "(II)I"⟩ : MethodName) (head1 (Jvm.Cond.code (⟨"com/example/bytewright/bytewright/grid/ObjectStarts", "indexOf", "(II)I"⟩ : MethodName) prog_53_method_5_code 6 (some .int) :: ws) ({ frames := 2, cells := 0, slots := 0, locals := 34 } : Room)) (fun a U => a = #[(.ref r0), (.int p1), (.int p2)] ∧ Z.Warmed39 U.vm ∧ U.heap = h0) (fun _ _ _ _ _ => True) (fun _ U o U' => ∃ v L, o = .returned v ∧ Q5c3 Z r0 p1 p2 ab kc x0 x1 x2 x3 key h0 n0 v U'.heap L ∧ FrameEnd U o U' L ({ frames := 2, cells := 0, slots := 0, locals := 34 } : Room).cells ({ frames := 2, cells := 0, slots := 0, locals := 34 } : Room).slots) := by
  refine MetFree.of_bodySF (plainFor_of_name pn0) hisR ?_
  intro p e s m args below meth c s₁ Bd hml0 hP hK
  obtain ⟨rfl, hZ, hh⟩ := hP
  have hx := Bd.exec
  have hby := Bd.bytes
  have hml : c.maxLocals = 6 := hml0
  have hown : s.vm.findClass "com/example/bytewright/bytewright/grid/ObjectStarts" = some m.cls := findClass_of_methodNamed Bd.named
  have hnm := (name_of_methodNamed Bd.named Bd.method).1
  have X0 : Stand p l e ({ frames := 2, cells := 0, slots := 0, locals := 34 } : Room) s m #[(.ref r0), (.int p1), (.int p2)] below meth c s₁ [] 0 0 := Stand.of_body Bd
  have e0 : s₁.heap = h0 := by rw [← hh, Bd.state]; rfl
  have N0 := Fr.nil n0
  have pre0 : ∀ t, Steps p.tables e below (s₁.setTop (mkF m 0 #[rv r0, iv p1, iv p2, .unset, .unset, .unset] [])) t → Steps p.tables e below (s₁.setTop (entryFrame m #[(.ref r0), (.int p1), (.int p2)] 6)) t := fun t k => castTop (ef_5c3 m r0 p1 p2) k
  have pre2 : ∀ t, Steps p.tables e below (s₁.setTop (mkF m 9 #[rv r0, iv p1, iv p2, .val (.long key.toInt64), .second, .unset] [(.int (lcmpW key.toInt64 (0 : Int64)))])) t → Steps p.tables e below (s₁.setTop (entryFrame m #[(.ref r0), (.int p1), (.int p2)] 6)) t := by
    intro t kt
    refine pre0 _ ?_
    show Steps p.tables e below (s₁.setTop (mkF m 0 #[rv r0, iv p1, iv p2, .unset, .unset, .unset] [])) _
    refine XS.iloadN X0.here hx rfl (hb hby d5_0) rfl ?_
    refine XS.i2l X0.here hx rfl (hb hby d5_1) rfl ?_
    refine XS.iloadN X0.here hx rfl (hb hby d5_2) rfl ?_
    refine XS.i2l X0.here hx rfl (hb hby d5_3) rfl ?_
    refine XS.lsub X0.here hx rfl (hb hby d5_4) rfl ?_
    show Steps p.tables e below (s₁.setTop (mkF m 5 #[rv r0, iv p1, iv p2, .unset, .unset, .unset] [(.long ((p1.toInt64) - (p2.toInt64)))])) _
    rw [show ((p1.toInt64) - (p2.toInt64)) = key.toInt64 from hkey]
    show Steps p.tables e below (s₁.setTop (mkF m 5 #[rv r0, iv p1, iv p2, .unset, .unset, .unset] [(.long key.toInt64)])) _
    refine XS.lstoreN X0.here hx rfl (hb hby d5_5) rfl (l' := #[rv r0, iv p1, iv p2, .val (.long key.toInt64), .second, .unset]) rfl ?_
    refine XS.lloadN X0.here hx rfl (hb hby d5_6) rfl ?_
    refine XS.lconst X0.here hx rfl (hb hby d5_7) ?_
    refine XS.lcmp X0.here hx rfl (hb hby d5_8) rfl ?_
    exact kt
  have hc9_1 : ¬ ((lcmpW key.toInt64 (0 : Int64)) < (0 : Int32)) := hk0
  have pre4 : ∀ t, Steps p.tables e below (s₁.setTop (mkF m 16 #[rv r0, iv p1, iv p2, .val (.long key.toInt64), .second, .unset] [(.int (lcmpW key.toInt64 (p1.toInt64)))])) t → Steps p.tables e below (s₁.setTop (entryFrame m #[(.ref r0), (.int p1), (.int p2)] 6)) t := by
    intro t kt
    refine pre2 _ ?_
    show Steps p.tables e below (s₁.setTop (mkF m 9 #[rv r0, iv p1, iv p2, .val (.long key.toInt64), .second, .unset] [(.int (lcmpW key.toInt64 (0 : Int64)))])) _
    refine XS.ifNo X0.here hx rfl (hb hby d5_9) rfl ((if0 _ _).trans (flt hc9_1).1) ?_
    refine XS.lloadN X0.here hx rfl (hb hby d5_12) rfl ?_
    refine XS.iloadN X0.here hx rfl (hb hby d5_13) rfl ?_
    refine XS.i2l X0.here hx rfl (hb hby d5_14) rfl ?_
    refine XS.lcmp X0.here hx rfl (hb hby d5_15) rfl ?_
    exact kt
  have hc16_3 : (lcmpW key.toInt64 (p1.toInt64)) < (0 : Int32) := hk1
  have pre5 : ∀ t, Steps p.tables e below (s₁.setTop (mkF m 22 #[rv r0, iv p1, iv p2, .val (.long key.toInt64), .second, .unset] [(.ref r0)])) t → Steps p.tables e below (s₁.setTop (entryFrame m #[(.ref r0), (.int p1), (.int p2)] 6)) t := by
    intro t kt
    refine pre4 _ ?_
    show Steps p.tables e below (s₁.setTop (mkF m 16 #[rv r0, iv p1, iv p2, .val (.long key.toInt64), .second, .unset] [(.int (lcmpW key.toInt64 (p1.toInt64)))])) _
    refine XS.ifYes X0.here hx rfl (pc0 := 16) (pc' := 21) rfl (hb hby d5_16) rfl ((if0 _ _).trans (tlt hc16_3).1) (by decide) (by decide) ?_
    refine XS.aloadN X0.here hx rfl (hb hby d5_21) rfl rfl ?_
    exact kt
  obtain ⟨T6, X6, e6, st6⟩ := getF X0 hx hZ hown (host := "") (Or.inl (hw _ (List.mem_of_getElem? (i := 11) rfl))) Via.refl e0 F_offsets_r0 (g := (mkF m 22 #[rv r0, iv p1, iv p2, .val (.long key.toInt64), .second, .unset] [(.ref r0)])) rfl rfl (hb hby d5_22)
  have pre7 : ∀ t, Steps p.tables e below (T6.setTop (mkF m 27 #[rv r0, iv p1, iv p2, .val (.long key.toInt64), .second, .unset] [(.ref r0), (.int (0 : Int32)), (.ref ab)])) t → Steps p.tables e below (s₁.setTop (entryFrame m #[(.ref r0), (.int p1), (.int p2)] 6)) t := by
    intro t kt
    refine pre5 _ ?_
    show Steps p.tables e below (s₁.setTop (mkF m 22 #[rv r0, iv p1, iv p2, .val (.long key.toInt64), .second, .unset] [(.ref r0)])) _
    refine st6 _ ?_
    show Steps p.tables e below (T6.setTop (mkF m 25 #[rv r0, iv p1, iv p2, .val (.long key.toInt64), .second, .unset] [(.ref ab)])) _
    refine XS.iconst X6.here hx rfl (hb hby d5_25) ?_
    refine XS.aloadN X6.here hx rfl (hb hby d5_26) rfl rfl ?_
    exact kt
  obtain ⟨T8, X8, e8, st8⟩ := getF X6 hx hZ hown (host := "") (Or.inl (hw _ (List.mem_of_getElem? (i := 18) rfl))) Via.refl e6 F_count_r0 (g := (mkF m 27 #[rv r0, iv p1, iv p2, .val (.long key.toInt64), .second, .unset] [(.ref r0), (.int (0 : Int32)), (.ref ab)])) rfl rfl (hb hby d5_27)
  have pre9 : ∀ t, Steps p.tables e below (T8.setTop (mkF m 32 #[rv r0, iv p1, iv p2, .val (.long key.toInt64), .second, .unset] [(.int key), (.int (3 : Int32)), (.int (0 : Int32)), (.ref ab)])) t → Steps p.tables e below (s₁.setTop (entryFrame m #[(.ref r0), (.int p1), (.int p2)] 6)) t := by
    intro t kt
    refine pre7 _ ?_
    show Steps p.tables e below (T6.setTop (mkF m 27 #[rv r0, iv p1, iv p2, .val (.long key.toInt64), .second, .unset] [(.ref r0), (.int (0 : Int32)), (.ref ab)])) _
    refine st8 _ ?_
    show Steps p.tables e below (T8.setTop (mkF m 30 #[rv r0, iv p1, iv p2, .val (.long key.toInt64), .second, .unset] [(.int (3 : Int32)), (.int (0 : Int32)), (.ref ab)])) _
    refine XS.lloadN X8.here hx rfl (hb hby d5_30) rfl ?_
    refine XS.l2i X8.here hx rfl (hb hby d5_31) rfl ?_
    show Steps p.tables e below (T8.setTop (mkF m 32 #[rv r0, iv p1, iv p2, .val (.long key.toInt64), .second, .unset] [(.int (key.toInt64.toInt32)), (.int (3 : Int32)), (.int (0 : Int32)), (.ref ab)])) _
    rw [show (key.toInt64.toInt32) = key from (Int32.toInt32_toInt64 key)]
    exact kt
  obtain ⟨_, _, ⟨T10, L10, k10, n10⟩, -, X10, ⟨Lc10, hQ10, l10, y10, z10⟩, st10⟩ := Jvm.LawKit.callS X8 hx (y := (⟨"java/util/Arrays", "binarySearch", "([IIII)I"⟩ : MethodName)) hown (mvT hZ (hw _ (List.mem_of_getElem? (i := 30) rfl))) (mvT hZ (hw _ (List.mem_of_getElem? (i := 31) rfl))) (mvT hZ (hw _ (List.mem_of_getElem? (i := 32) rfl))) (mvT hZ (hw _ (List.mem_of_getElem? (i := 33) rfl))) (by decide) (backOf (W := 0) (rm6c3 l Z a0 hw [] ab key kc x0 x1 x2 x3 h0 n0 (Nat.le_trans Z0 (Keep.refl h0 []).1) V_ab) hZ (hw _ (List.mem_of_getElem? (i := 33) rfl)) (hw _ (List.mem_of_getElem? (i := 32) rfl)) (by decide) (by decide)) (g := (mkF m 32 #[rv r0, iv p1, iv p2, .val (.long key.toInt64), .second, .unset] [(.int key), (.int (3 : Int32)), (.int (0 : Int32)), (.ref ab)])) rfl (by rw [hml]; rfl) (argsL := [(.ref ab), (.int (0 : Int32)), (.int (3 : Int32)), (.int key)]) (rest := []) (lenOf pd3 rfl) rfl (by show 2 * 0 + _ ≤ _; exact Nat.le_of_eq rfl) (hb hby d5_32) (fun _ _ => ⟨rfl, e8, (by decide : 0 + 0 ≤ _), (by decide : 0 + 0 ≤ _)⟩)
  dsimp only [Pt.U, Pt.locs, Pt.cells, Pt.slots] at X10 l10 y10 z10 st10 hQ10
  subst l10 y10 z10
  obtain ⟨rfl, N10q, hh10⟩ := hQ10
  have N10 := Fr.app N0 N10q
  have pre11 : ∀ t, Steps p.tables e below (T10.setTop (mkF m 39 #[rv r0, iv p1, iv p2, .val (.long key.toInt64), .second, iv (own_bs3 key x0 x1 x2 x3)] [(.int (own_bs3 key x0 x1 x2 x3))])) t → Steps p.tables e below (s₁.setTop (entryFrame m #[(.ref r0), (.int p1), (.int p2)] 6)) t := by
    intro t kt
    refine pre9 _ ?_
    show Steps p.tables e below (T8.setTop (mkF m 32 #[rv r0, iv p1, iv p2, .val (.long key.toInt64), .second, .unset] [(.int key), (.int (3 : Int32)), (.int (0 : Int32)), (.ref ab)])) _
    refine st10 _ ?_
    show Steps p.tables e below (T10.setTop (mkF m 35 #[rv r0, iv p1, iv p2, .val (.long key.toInt64), .second, .unset] [(.int (own_bs3 key x0 x1 x2 x3))])) _
    refine XS.istore X10.here hx rfl (hb hby d5_35) rfl (l' := #[rv r0, iv p1, iv p2, .val (.long key.toInt64), .second, iv (own_bs3 key x0 x1 x2 x3)]) rfl ?_
    refine XS.iload X10.here hx rfl (hb hby d5_37) rfl ?_
    exact kt
  by_cases hc39 : (own_bs3 key x0 x1 x2 x3) < (0 : Int32)
  · have pre12 : ∀ t, Steps p.tables e below (T10.setTop (mkF m 48 #[rv r0, iv p1, iv p2, .val (.long key.toInt64), .second, iv (own_bs3 key x0 x1 x2 x3)] [(.int (-1 : Int32))])) t → Steps p.tables e below (s₁.setTop (entryFrame m #[(.ref r0), (.int p1), (.int p2)] 6)) t := by
      intro t kt
      refine pre11 _ ?_
      show Steps p.tables e below (T10.setTop (mkF m 39 #[rv r0, iv p1, iv p2, .val (.long key.toInt64), .second, iv (own_bs3 key x0 x1 x2 x3)] [(.int (own_bs3 key x0 x1 x2 x3))])) _
      refine XS.ifNo X10.here hx rfl (hb hby d5_39) rfl ((if0 _ _).trans (tlt hc39).2.1) ?_
      refine XS.iconst X10.here hx rfl (hb hby d5_42) ?_
      refine XS.goto X10.here hx rfl (pc0 := 43) (pc' := 48) rfl (hb hby d5_43) (by decide) (by decide) ?_
      exact kt
    obtain ⟨fs, hr, hrun, hended, hW, hsame⟩ := X10.leave (v := some (.int (-1 : Int32))) (fun h => by rw [Bd.returns] at h; cases h)
    refine ⟨_, _, pre12 _ ?_, hrun, hended, _, _, rfl, ?_, ⟨_, rfl⟩, hW, hsame.mono (by decide) (by decide)⟩
    · show Steps p.tables e below (T10.setTop (mkF m 48 #[rv r0, iv p1, iv p2, .val (.long key.toInt64), .second, iv (own_bs3 key x0 x1 x2 x3)] [(.int (-1 : Int32))])) _
      exact retI X10 hx Bd.returns (hb hby d5_48) hr
    · show Q5c3 Z r0 p1 p2 ab kc x0 x1 x2 x3 key h0 n0 _ T10.heap _
      rw [hh10]
      exact ⟨congrArg (fun z => some (Value.int z)) ((if_pos hc39).trans rfl).symm, N10, rfl⟩
  · have pre13 : ∀ t, Steps p.tables e below (T10.setTop (mkF m 48 #[rv r0, iv p1, iv p2, .val (.long key.toInt64), .second, iv (own_bs3 key x0 x1 x2 x3)] [(.int (own_bs3 key x0 x1 x2 x3))])) t → Steps p.tables e below (s₁.setTop (entryFrame m #[(.ref r0), (.int p1), (.int p2)] 6)) t := by
      intro t kt
      refine pre11 _ ?_
      show Steps p.tables e below (T10.setTop (mkF m 39 #[rv r0, iv p1, iv p2, .val (.long key.toInt64), .second, iv (own_bs3 key x0 x1 x2 x3)] [(.int (own_bs3 key x0 x1 x2 x3))])) _
      refine XS.ifYes X10.here hx rfl (pc0 := 39) (pc' := 46) rfl (hb hby d5_39) rfl ((if0 _ _).trans (flt hc39).2.1) (by decide) (by decide) ?_
      refine XS.iload X10.here hx rfl (hb hby d5_46) rfl ?_
      exact kt
    obtain ⟨fs, hr, hrun, hended, hW, hsame⟩ := X10.leave (v := some (.int (own_bs3 key x0 x1 x2 x3))) (fun h => by rw [Bd.returns] at h; cases h)
    refine ⟨_, _, pre13 _ ?_, hrun, hended, _, _, rfl, ?_, ⟨_, rfl⟩, hW, hsame.mono (by decide) (by decide)⟩
    · show Steps p.tables e below (T10.setTop (mkF m 48 #[rv r0, iv p1, iv p2, .val (.long key.toInt64), .second, iv (own_bs3 key x0 x1 x2 x3)] [(.int (own_bs3 key x0 x1 x2 x3))])) _
      exact retI X10 hx Bd.returns (hb hby d5_48) hr
    · show Q5c3 Z r0 p1 p2 ab kc x0 x1 x2 x3 key h0 n0 _ T10.heap _
      rw [hh10]
      exact ⟨congrArg (fun z => some (Value.int z)) ((if_neg hc39).trans rfl).symm, N10, rfl⟩
theorem own_ord (p q r a b c : Int32) (ha : a = (p &&& (536870911 : Int32))) (hb : b = ((a + (1 : Int32)) + (q &&& (536870911 : Int32)))) (hc : c = ((b + (1 : Int32)) + (r &&& (536870911 : Int32)))) : 0 ≤ a.toInt ∧ a.toInt < b.toInt ∧ b.toInt < c.toInt ∧ c.toInt < 1610612736 := by
  have h1 := c_mask p 536870911 29 (by decide) (by decide)
  have h2 := c_mask q 536870911 29 (by decide) (by decide)
  have h3 := c_mask r 536870911 29 (by decide) (by decide)
  have k1 := c_iadd a 1
  have k2 := c_iadd (a + 1) (q &&& 536870911)
  have k3 := c_iadd b 1
  have k4 := c_iadd (b + 1) (r &&& 536870911)
  have r1 := rng32 (a + 1); have r2 := rng32 b; have r3 := rng32 (b + 1); have r4 := rng32 c
  have z : (1 : Int32).toInt = 1 := by decide
  rw [z] at k1 k3
  rw [← ha] at h1
  rw [← hb] at k2
  rw [← hc] at k4
  omega
theorem own_next (c t : Int32) (ht : t = (c + (1 : Int32))) (h : 0 ≤ c.toInt ∧ c.toInt < 1610612736) : t.toInt = c.toInt + 1 := by
  have k1 := c_iadd c 1
  have z : (1 : Int32).toInt = 1 := by decide
  have r := rng32 t
  rw [z, ← ht] at k1
  omega
theorem own_key (t v : Int32) (h : 0 ≤ v.toInt ∧ v.toInt < t.toInt) : (t.toInt64 - (t - v).toInt64) = v.toInt64 ∧ ¬ ((lcmpW v.toInt64 (0 : Int64)) < (0 : Int32)) ∧ (lcmpW v.toInt64 t.toInt64) < (0 : Int32) := by
  have k1 := c_isub t v
  have r1 := rng32 (t - v); have r2 := rng32 t; have r3 := rng32 v
  have k2 := c_lsub t.toInt64 (t - v).toInt64
  have r4 := rng64 (t.toInt64 - (t - v).toInt64)
  rw [c_i2l, c_i2l] at k2
  have z : (0 : Int64).toInt = 0 := by decide
  refine ⟨?_, ?_, ?_⟩
  · apply Int64.toInt_inj.mp; rw [c_i2l]; omega
  · rw [lw_lt, Int64.lt_iff_toInt_lt, c_i2l, z]; omega
  · rw [lw_lt, Int64.lt_iff_toInt_lt, c_i2l, c_i2l]; omega
theorem own_four (p : Int32) : (p &&& (3 : Int32)) = (0 : Int32) ∨ (p &&& (3 : Int32)) = (1 : Int32) ∨ (p &&& (3 : Int32)) = (2 : Int32) ∨ (p &&& (3 : Int32)) = (3 : Int32) := by
  have h1 := c_mask p 3 2 (by decide) (by decide)
  simp only [← Int32.toInt_inj]
  have z : (0 : Int32).toInt = 0 ∧ (1 : Int32).toInt = 1 ∧ (2 : Int32).toInt = 2 ∧ (3 : Int32).toInt = 3 := by decide
  omega
theorem pn4 : plainName "com/example/bytewright/bytewright/grid/ObjectStartsForgetFromPinLaw" = true := by first | (simp [plainName, overriddenIn]; done) | decide +kernel
theorem pd5 : parseMethodDescriptor "()V" = some ⟨[], none⟩ := by decide +kernel
theorem pd6 : parseMethodDescriptor "(I)V" = some ⟨[.int], none⟩ := by decide +kernel
theorem pd7 : parseMethodDescriptor "(II)I" = some ⟨[.int, .int], some .int⟩ := by decide +kernel
theorem pd8 : parseMethodDescriptor "(I)I" = some ⟨[.int], some .int⟩ := by decide +kernel
theorem ef_0 (m : MethodId) (x0 : Int32) (x1 : Int32) (x2 : Int32) (x3 : Int32) (x4 : Int32) (x5 : Int32) : entryFrame m #[(.int x0), (.int x1), (.int x2), (.int x3), (.int x4), (.int x5)] maxLocals = mkF m 0 #[.val (.int x0), .val (.int x1), .val (.int x2), .val (.int x3), .val (.int x4), .val (.int x5), .unset, .unset, .unset, .unset, .unset, .unset, .unset, .unset, .unset, .unset, .unset, .unset, .unset] [] := by first | (simp [entryFrame, mkF, argsToLocals, Value.category, maxLocals]; done) | rfl
def Q0 (Z : State) (p0 : Int32) (p1 : Int32) (p2 : Int32) (p3 : Int32) (p4 : Int32) (p5 : Int32) (h0 : Heap) (n0 : Nat) (v : Option Value) (h : Heap) (L : List Loc) : Prop := v = some (.int 1) ∧ Fr n0 L
set_option maxRecDepth 65536 in
set_option maxHeartbeats 40000000 in
theorem rm0 (l : Launch) (Z : State) (a0 : Array Value) (hw : ∀ d ∈ tables_1, d.before a0 Z = true) (ws : List Jvm.Cond) (p0 : Int32) (p1 : Int32) (p2 : Int32) (p3 : Int32) (p4 : Int32) (p5 : Int32) (h0 : Heap) (n0 : Nat) (Z0 : n0 ≤ h0.size) :
    MetFree l x (head1 (Jvm.Cond.code x code maxLocals ret :: ws) room_1) (fun a U => a = #[(.int p0), (.int p1), (.int p2), (.int p3), (.int p4), (.int p5)] ∧ Z.Warmed39 U.vm ∧ U.heap = h0) (fun _ _ _ _ _ => True) (fun _ U o U' => ∃ v L, o = .returned v ∧ Q0 Z p0 p1 p2 p3 p4 p5 h0 n0 v U'.heap L ∧ FrameEnd U o U' L room_1.cells room_1.slots) := by
  refine MetFree.of_bodySF (plainFor_of_name pn4) hisR ?_
  intro p e s m args below meth c s₁ Bd hml0 hP hK
  obtain ⟨rfl, hZ, hh⟩ := hP
  have hx := Bd.exec
  have hby := Bd.bytes
  have hml : c.maxLocals = 19 := hml0
  have hown : s.vm.findClass "com/example/bytewright/bytewright/grid/ObjectStartsForgetFromPinLaw" = some m.cls := findClass_of_methodNamed Bd.named
  have hnm := (name_of_methodNamed Bd.named Bd.method).1
  have X0 : Stand p l e room_1 s m #[(.int p0), (.int p1), (.int p2), (.int p3), (.int p4), (.int p5)] below meth c s₁ [] 0 0 := Stand.of_body Bd
  have e0 : s₁.heap = h0 := by rw [← hh, Bd.state]; rfl
  have N0 := Fr.nil n0
  have pre0 : ∀ t, Steps p.tables e below (s₁.setTop (mkF m 0 #[iv p0, iv p1, iv p2, iv p3, iv p4, iv p5, .unset, .unset, .unset, .unset, .unset, .unset, .unset, .unset, .unset, .unset, .unset, .unset, .unset] [])) t → Steps p.tables e below (s₁.setTop (entryFrame m #[(.int p0), (.int p1), (.int p2), (.int p3), (.int p4), (.int p5)] maxLocals)) t := fun t k => castTop (ef_0 m p0 p1 p2 p3 p4 p5) k
  obtain ⟨va, h_va⟩ : ∃ z : Int32, z = (p0 &&& (536870911 : Int32)) := ⟨_, rfl⟩
  obtain ⟨vb, h_vb⟩ : ∃ z : Int32, z = ((va + (1 : Int32)) + (p1 &&& (536870911 : Int32))) := ⟨_, rfl⟩
  obtain ⟨vc, h_vc⟩ : ∃ z : Int32, z = ((vb + (1 : Int32)) + (p2 &&& (536870911 : Int32))) := ⟨_, rfl⟩
  obtain ⟨o0, o1, o2, o3⟩ := own_ord p0 p1 p2 va vb vc h_va h_vb h_vc
  have hab : va < vb := Int32.lt_iff_toInt_lt.mpr o1
  have hbc : vb < vc := Int32.lt_iff_toInt_lt.mpr o2
  have hac : va < vc := Int32.lt_iff_toInt_lt.mpr (by omega)
  have nba : ¬ vb < va := fun q => by have := Int32.lt_iff_toInt_lt.mp q; omega
  have ncb : ¬ vc < vb := fun q => by have := Int32.lt_iff_toInt_lt.mp q; omega
  have nca : ¬ vc < va := fun q => by have := Int32.lt_iff_toInt_lt.mp q; omega
  have pre1 : ∀ t, Steps p.tables e below (s₁.setTop (mkF m 34 #[iv p0, iv p1, iv p2, iv p3, iv p4, iv p5, iv va, iv vb, iv vc, iv (p5 &&& (3 : Int32)), .unset, .unset, .unset, .unset, .unset, .unset, .unset, .unset, .unset] [])) t → Steps p.tables e below (s₁.setTop (entryFrame m #[(.int p0), (.int p1), (.int p2), (.int p3), (.int p4), (.int p5)] maxLocals)) t := by
    intro t kt
    refine pre0 _ ?_
    show Steps p.tables e below (s₁.setTop (mkF m 0 #[iv p0, iv p1, iv p2, iv p3, iv p4, iv p5, .unset, .unset, .unset, .unset, .unset, .unset, .unset, .unset, .unset, .unset, .unset, .unset, .unset] [])) _
    refine XS.iloadN X0.here hx rfl (hb hby at_0) rfl ?_
    refine X0.ldcInt hx hown (mvT hZ (hw _ (List.mem_of_getElem? (i := 0) rfl))) (g := (mkF m 1 #[iv p0, iv p1, iv p2, iv p3, iv p4, iv p5, .unset, .unset, .unset, .unset, .unset, .unset, .unset, .unset, .unset, .unset, .unset, .unset, .unset] [(.int p0)])) rfl (hb hby at_1) _ ?_
    show Steps p.tables e below (s₁.setTop (mkF m 3 #[iv p0, iv p1, iv p2, iv p3, iv p4, iv p5, .unset, .unset, .unset, .unset, .unset, .unset, .unset, .unset, .unset, .unset, .unset, .unset, .unset] [(.int (536870911 : Int32)), (.int p0)])) _
    refine XS.iand X0.here hx rfl (hb hby at_3) rfl ?_
    refine XS.istore X0.here hx rfl (hb hby at_4) rfl (l' := #[iv p0, iv p1, iv p2, iv p3, iv p4, iv p5, iv (p0 &&& (536870911 : Int32)), .unset, .unset, .unset, .unset, .unset, .unset, .unset, .unset, .unset, .unset, .unset, .unset]) rfl ?_
    show Steps p.tables e below (s₁.setTop (mkF m 6 #[iv p0, iv p1, iv p2, iv p3, iv p4, iv p5, iv (p0 &&& (536870911 : Int32)), .unset, .unset, .unset, .unset, .unset, .unset, .unset, .unset, .unset, .unset, .unset, .unset] [])) _
    rw [← h_va]
    show Steps p.tables e below (s₁.setTop (mkF m 6 #[iv p0, iv p1, iv p2, iv p3, iv p4, iv p5, iv va, .unset, .unset, .unset, .unset, .unset, .unset, .unset, .unset, .unset, .unset, .unset, .unset] [])) _
    refine XS.iload X0.here hx rfl (hb hby at_6) rfl ?_
    refine XS.iconst X0.here hx rfl (hb hby at_8) ?_
    refine XS.iadd X0.here hx rfl (hb hby at_9) rfl ?_
    refine XS.iloadN X0.here hx rfl (hb hby at_10) rfl ?_
    refine X0.ldcInt hx hown (mvT hZ (hw _ (List.mem_of_getElem? (i := 0) rfl))) (g := (mkF m 11 #[iv p0, iv p1, iv p2, iv p3, iv p4, iv p5, iv va, .unset, .unset, .unset, .unset, .unset, .unset, .unset, .unset, .unset, .unset, .unset, .unset] [(.int p1), (.int (va + (1 : Int32)))])) rfl (hb hby at_11) _ ?_
    show Steps p.tables e below (s₁.setTop (mkF m 13 #[iv p0, iv p1, iv p2, iv p3, iv p4, iv p5, iv va, .unset, .unset, .unset, .unset, .unset, .unset, .unset, .unset, .unset, .unset, .unset, .unset] [(.int (536870911 : Int32)), (.int p1), (.int (va + (1 : Int32)))])) _
    refine XS.iand X0.here hx rfl (hb hby at_13) rfl ?_
    refine XS.iadd X0.here hx rfl (hb hby at_14) rfl ?_
    refine XS.istore X0.here hx rfl (hb hby at_15) rfl (l' := #[iv p0, iv p1, iv p2, iv p3, iv p4, iv p5, iv va, iv ((va + (1 : Int32)) + (p1 &&& (536870911 : Int32))), .unset, .unset, .unset, .unset, .unset, .unset, .unset, .unset, .unset, .unset, .unset]) rfl ?_
    show Steps p.tables e below (s₁.setTop (mkF m 17 #[iv p0, iv p1, iv p2, iv p3, iv p4, iv p5, iv va, iv ((va + (1 : Int32)) + (p1 &&& (536870911 : Int32))), .unset, .unset, .unset, .unset, .unset, .unset, .unset, .unset, .unset, .unset, .unset] [])) _
    rw [← h_vb]
    show Steps p.tables e below (s₁.setTop (mkF m 17 #[iv p0, iv p1, iv p2, iv p3, iv p4, iv p5, iv va, iv vb, .unset, .unset, .unset, .unset, .unset, .unset, .unset, .unset, .unset, .unset, .unset] [])) _
    refine XS.iload X0.here hx rfl (hb hby at_17) rfl ?_
    refine XS.iconst X0.here hx rfl (hb hby at_19) ?_
    refine XS.iadd X0.here hx rfl (hb hby at_20) rfl ?_
    refine XS.iloadN X0.here hx rfl (hb hby at_21) rfl ?_
    refine X0.ldcInt hx hown (mvT hZ (hw _ (List.mem_of_getElem? (i := 0) rfl))) (g := (mkF m 22 #[iv p0, iv p1, iv p2, iv p3, iv p4, iv p5, iv va, iv vb, .unset, .unset, .unset, .unset, .unset, .unset, .unset, .unset, .unset, .unset, .unset] [(.int p2), (.int (vb + (1 : Int32)))])) rfl (hb hby at_22) _ ?_
    show Steps p.tables e below (s₁.setTop (mkF m 24 #[iv p0, iv p1, iv p2, iv p3, iv p4, iv p5, iv va, iv vb, .unset, .unset, .unset, .unset, .unset, .unset, .unset, .unset, .unset, .unset, .unset] [(.int (536870911 : Int32)), (.int p2), (.int (vb + (1 : Int32)))])) _
    refine XS.iand X0.here hx rfl (hb hby at_24) rfl ?_
    refine XS.iadd X0.here hx rfl (hb hby at_25) rfl ?_
    refine XS.istore X0.here hx rfl (hb hby at_26) rfl (l' := #[iv p0, iv p1, iv p2, iv p3, iv p4, iv p5, iv va, iv vb, iv ((vb + (1 : Int32)) + (p2 &&& (536870911 : Int32))), .unset, .unset, .unset, .unset, .unset, .unset, .unset, .unset, .unset, .unset]) rfl ?_
    show Steps p.tables e below (s₁.setTop (mkF m 28 #[iv p0, iv p1, iv p2, iv p3, iv p4, iv p5, iv va, iv vb, iv ((vb + (1 : Int32)) + (p2 &&& (536870911 : Int32))), .unset, .unset, .unset, .unset, .unset, .unset, .unset, .unset, .unset, .unset] [])) _
    rw [← h_vc]
    show Steps p.tables e below (s₁.setTop (mkF m 28 #[iv p0, iv p1, iv p2, iv p3, iv p4, iv p5, iv va, iv vb, iv vc, .unset, .unset, .unset, .unset, .unset, .unset, .unset, .unset, .unset, .unset] [])) _
    refine XS.iload X0.here hx rfl (hb hby at_28) rfl ?_
    refine XS.iconst X0.here hx rfl (hb hby at_30) ?_
    refine XS.iand X0.here hx rfl (hb hby at_31) rfl ?_
    refine XS.istore X0.here hx rfl (hb hby at_32) rfl (l' := #[iv p0, iv p1, iv p2, iv p3, iv p4, iv p5, iv va, iv vb, iv vc, iv (p5 &&& (3 : Int32)), .unset, .unset, .unset, .unset, .unset, .unset, .unset, .unset, .unset]) rfl ?_
    exact kt
  rcases own_four p5 with h4 | h4 | h4 | h4
  · have pre2 : ∀ t, Steps p.tables e below (s₁.setTop (mkF m 41 #[iv p0, iv p1, iv p2, iv p3, iv p4, iv p5, iv va, iv vb, iv vc, iv (0 : Int32), iv (p4 &&& (7 : Int32)), .unset, .unset, .unset, .unset, .unset, .unset, .unset, .unset] [])) t → Steps p.tables e below (s₁.setTop (entryFrame m #[(.int p0), (.int p1), (.int p2), (.int p3), (.int p4), (.int p5)] maxLocals)) t := by
      intro t kt
      refine pre1 _ ?_
      show Steps p.tables e below (s₁.setTop (mkF m 34 #[iv p0, iv p1, iv p2, iv p3, iv p4, iv p5, iv va, iv vb, iv vc, iv (p5 &&& (3 : Int32)), .unset, .unset, .unset, .unset, .unset, .unset, .unset, .unset, .unset] [])) _
      rw [h4]
      show Steps p.tables e below (s₁.setTop (mkF m 34 #[iv p0, iv p1, iv p2, iv p3, iv p4, iv p5, iv va, iv vb, iv vc, iv (0 : Int32), .unset, .unset, .unset, .unset, .unset, .unset, .unset, .unset, .unset] [])) _
      refine XS.iload X0.here hx rfl (hb hby at_34) rfl ?_
      refine XS.bipush X0.here hx rfl (hb hby at_36) ?_
      refine XS.iand X0.here hx rfl (hb hby at_38) rfl ?_
      refine XS.istore X0.here hx rfl (hb hby at_39) rfl (l' := #[iv p0, iv p1, iv p2, iv p3, iv p4, iv p5, iv va, iv vb, iv vc, iv (0 : Int32), iv (p4 &&& (7 : Int32)), .unset, .unset, .unset, .unset, .unset, .unset, .unset, .unset]) rfl ?_
      exact kt
    obtain ⟨off, hj19, pre19⟩ : ∃ (off : Int32), (True) ∧ ∀ t, Steps p.tables e below (s₁.setTop (mkF m 143 #[iv p0, iv p1, iv p2, iv p3, iv p4, iv p5, iv va, iv vb, iv vc, iv (0 : Int32), iv (p4 &&& (7 : Int32)), iv off, .unset, .unset, .unset, .unset, .unset, .unset, .unset] [])) t → Steps p.tables e below (s₁.setTop (entryFrame m #[(.int p0), (.int p1), (.int p2), (.int p3), (.int p4), (.int p5)] maxLocals)) t := by
      have pre3 : ∀ t, Steps p.tables e below (s₁.setTop (mkF m 43 #[iv p0, iv p1, iv p2, iv p3, iv p4, iv p5, iv va, iv vb, iv vc, iv (0 : Int32), iv (p4 &&& (7 : Int32)), .unset, .unset, .unset, .unset, .unset, .unset, .unset, .unset] [(.int (p4 &&& (7 : Int32)))])) t → Steps p.tables e below (s₁.setTop (entryFrame m #[(.int p0), (.int p1), (.int p2), (.int p3), (.int p4), (.int p5)] maxLocals)) t := by
        intro t kt
        refine pre2 _ ?_
        show Steps p.tables e below (s₁.setTop (mkF m 41 #[iv p0, iv p1, iv p2, iv p3, iv p4, iv p5, iv va, iv vb, iv vc, iv (0 : Int32), iv (p4 &&& (7 : Int32)), .unset, .unset, .unset, .unset, .unset, .unset, .unset, .unset] [])) _
        refine XS.iload X0.here hx rfl (hb hby at_41) rfl ?_
        exact kt
      by_cases hc43 : (p4 &&& (7 : Int32)) = (0 : Int32)
      · have pre4 : ∀ t, Steps p.tables e below (s₁.setTop (mkF m 143 #[iv p0, iv p1, iv p2, iv p3, iv p4, iv p5, iv va, iv vb, iv vc, iv (0 : Int32), iv (p4 &&& (7 : Int32)), iv p3, .unset, .unset, .unset, .unset, .unset, .unset, .unset] [])) t → Steps p.tables e below (s₁.setTop (entryFrame m #[(.int p0), (.int p1), (.int p2), (.int p3), (.int p4), (.int p5)] maxLocals)) t := by
          intro t kt
          refine pre3 _ ?_
          show Steps p.tables e below (s₁.setTop (mkF m 43 #[iv p0, iv p1, iv p2, iv p3, iv p4, iv p5, iv va, iv vb, iv vc, iv (0 : Int32), iv (p4 &&& (7 : Int32)), .unset, .unset, .unset, .unset, .unset, .unset, .unset, .unset] [(.int (p4 &&& (7 : Int32)))])) _
          refine XS.ifNo X0.here hx rfl (hb hby at_43) rfl ((if0 _ _).trans (teq hc43).2) ?_
          refine XS.iloadN X0.here hx rfl (hb hby at_46) rfl ?_
          refine XS.istore X0.here hx rfl (hb hby at_47) rfl (l' := #[iv p0, iv p1, iv p2, iv p3, iv p4, iv p5, iv va, iv vb, iv vc, iv (0 : Int32), iv (p4 &&& (7 : Int32)), iv p3, .unset, .unset, .unset, .unset, .unset, .unset, .unset]) rfl ?_
          refine XS.goto X0.here hx rfl (pc0 := 49) (pc' := 143) rfl (hb hby at_49) (by decide) (by decide) ?_
          exact kt
        exact ⟨p3, trivial, pre4⟩
      · have pre5 : ∀ t, Steps p.tables e below (s₁.setTop (mkF m 55 #[iv p0, iv p1, iv p2, iv p3, iv p4, iv p5, iv va, iv vb, iv vc, iv (0 : Int32), iv (p4 &&& (7 : Int32)), .unset, .unset, .unset, .unset, .unset, .unset, .unset, .unset] [(.int (1 : Int32)), (.int (p4 &&& (7 : Int32)))])) t → Steps p.tables e below (s₁.setTop (entryFrame m #[(.int p0), (.int p1), (.int p2), (.int p3), (.int p4), (.int p5)] maxLocals)) t := by
          intro t kt
          refine pre3 _ ?_
          show Steps p.tables e below (s₁.setTop (mkF m 43 #[iv p0, iv p1, iv p2, iv p3, iv p4, iv p5, iv va, iv vb, iv vc, iv (0 : Int32), iv (p4 &&& (7 : Int32)), .unset, .unset, .unset, .unset, .unset, .unset, .unset, .unset] [(.int (p4 &&& (7 : Int32)))])) _
          refine XS.ifYes X0.here hx rfl (pc0 := 43) (pc' := 52) rfl (hb hby at_43) rfl ((if0 _ _).trans (feq hc43).2) (by decide) (by decide) ?_
          refine XS.iload X0.here hx rfl (hb hby at_52) rfl ?_
          refine XS.iconst X0.here hx rfl (hb hby at_54) ?_
          exact kt
        by_cases hc55 : (p4 &&& (7 : Int32)) = (1 : Int32)
        · have pre6 : ∀ t, Steps p.tables e below (s₁.setTop (mkF m 143 #[iv p0, iv p1, iv p2, iv p3, iv p4, iv p5, iv va, iv vb, iv vc, iv (0 : Int32), iv (p4 &&& (7 : Int32)), iv va, .unset, .unset, .unset, .unset, .unset, .unset, .unset] [])) t → Steps p.tables e below (s₁.setTop (entryFrame m #[(.int p0), (.int p1), (.int p2), (.int p3), (.int p4), (.int p5)] maxLocals)) t := by
            intro t kt
            refine pre5 _ ?_
            show Steps p.tables e below (s₁.setTop (mkF m 55 #[iv p0, iv p1, iv p2, iv p3, iv p4, iv p5, iv va, iv vb, iv vc, iv (0 : Int32), iv (p4 &&& (7 : Int32)), .unset, .unset, .unset, .unset, .unset, .unset, .unset, .unset] [(.int (1 : Int32)), (.int (p4 &&& (7 : Int32)))])) _
            refine XS.icmpNo X0.here hx rfl (hb hby at_55) rfl (teq hc55).2 ?_
            refine XS.iload X0.here hx rfl (hb hby at_58) rfl ?_
            refine XS.istore X0.here hx rfl (hb hby at_60) rfl (l' := #[iv p0, iv p1, iv p2, iv p3, iv p4, iv p5, iv va, iv vb, iv vc, iv (0 : Int32), iv (p4 &&& (7 : Int32)), iv va, .unset, .unset, .unset, .unset, .unset, .unset, .unset]) rfl ?_
            refine XS.goto X0.here hx rfl (pc0 := 62) (pc' := 143) rfl (hb hby at_62) (by decide) (by decide) ?_
            exact kt
          exact ⟨va, trivial, pre6⟩
        · have pre7 : ∀ t, Steps p.tables e below (s₁.setTop (mkF m 68 #[iv p0, iv p1, iv p2, iv p3, iv p4, iv p5, iv va, iv vb, iv vc, iv (0 : Int32), iv (p4 &&& (7 : Int32)), .unset, .unset, .unset, .unset, .unset, .unset, .unset, .unset] [(.int (2 : Int32)), (.int (p4 &&& (7 : Int32)))])) t → Steps p.tables e below (s₁.setTop (entryFrame m #[(.int p0), (.int p1), (.int p2), (.int p3), (.int p4), (.int p5)] maxLocals)) t := by
            intro t kt
            refine pre5 _ ?_
            show Steps p.tables e below (s₁.setTop (mkF m 55 #[iv p0, iv p1, iv p2, iv p3, iv p4, iv p5, iv va, iv vb, iv vc, iv (0 : Int32), iv (p4 &&& (7 : Int32)), .unset, .unset, .unset, .unset, .unset, .unset, .unset, .unset] [(.int (1 : Int32)), (.int (p4 &&& (7 : Int32)))])) _
            refine XS.icmpYes X0.here hx rfl (pc0 := 55) (pc' := 65) rfl (hb hby at_55) rfl (feq hc55).2 (by decide) (by decide) ?_
            refine XS.iload X0.here hx rfl (hb hby at_65) rfl ?_
            refine XS.iconst X0.here hx rfl (hb hby at_67) ?_
            exact kt
          by_cases hc68 : (p4 &&& (7 : Int32)) = (2 : Int32)
          · have pre8 : ∀ t, Steps p.tables e below (s₁.setTop (mkF m 143 #[iv p0, iv p1, iv p2, iv p3, iv p4, iv p5, iv va, iv vb, iv vc, iv (0 : Int32), iv (p4 &&& (7 : Int32)), iv (va + (1 : Int32)), .unset, .unset, .unset, .unset, .unset, .unset, .unset] [])) t → Steps p.tables e below (s₁.setTop (entryFrame m #[(.int p0), (.int p1), (.int p2), (.int p3), (.int p4), (.int p5)] maxLocals)) t := by
              intro t kt
              refine pre7 _ ?_
              show Steps p.tables e below (s₁.setTop (mkF m 68 #[iv p0, iv p1, iv p2, iv p3, iv p4, iv p5, iv va, iv vb, iv vc, iv (0 : Int32), iv (p4 &&& (7 : Int32)), .unset, .unset, .unset, .unset, .unset, .unset, .unset, .unset] [(.int (2 : Int32)), (.int (p4 &&& (7 : Int32)))])) _
              refine XS.icmpNo X0.here hx rfl (hb hby at_68) rfl (teq hc68).2 ?_
              refine XS.iload X0.here hx rfl (hb hby at_71) rfl ?_
              refine XS.iconst X0.here hx rfl (hb hby at_73) ?_
              refine XS.iadd X0.here hx rfl (hb hby at_74) rfl ?_
              refine XS.istore X0.here hx rfl (hb hby at_75) rfl (l' := #[iv p0, iv p1, iv p2, iv p3, iv p4, iv p5, iv va, iv vb, iv vc, iv (0 : Int32), iv (p4 &&& (7 : Int32)), iv (va + (1 : Int32)), .unset, .unset, .unset, .unset, .unset, .unset, .unset]) rfl ?_
              refine XS.goto X0.here hx rfl (pc0 := 77) (pc' := 143) rfl (hb hby at_77) (by decide) (by decide) ?_
              exact kt
            exact ⟨(va + (1 : Int32)), trivial, pre8⟩
          · have pre9 : ∀ t, Steps p.tables e below (s₁.setTop (mkF m 83 #[iv p0, iv p1, iv p2, iv p3, iv p4, iv p5, iv va, iv vb, iv vc, iv (0 : Int32), iv (p4 &&& (7 : Int32)), .unset, .unset, .unset, .unset, .unset, .unset, .unset, .unset] [(.int (3 : Int32)), (.int (p4 &&& (7 : Int32)))])) t → Steps p.tables e below (s₁.setTop (entryFrame m #[(.int p0), (.int p1), (.int p2), (.int p3), (.int p4), (.int p5)] maxLocals)) t := by
              intro t kt
              refine pre7 _ ?_
              show Steps p.tables e below (s₁.setTop (mkF m 68 #[iv p0, iv p1, iv p2, iv p3, iv p4, iv p5, iv va, iv vb, iv vc, iv (0 : Int32), iv (p4 &&& (7 : Int32)), .unset, .unset, .unset, .unset, .unset, .unset, .unset, .unset] [(.int (2 : Int32)), (.int (p4 &&& (7 : Int32)))])) _
              refine XS.icmpYes X0.here hx rfl (pc0 := 68) (pc' := 80) rfl (hb hby at_68) rfl (feq hc68).2 (by decide) (by decide) ?_
              refine XS.iload X0.here hx rfl (hb hby at_80) rfl ?_
              refine XS.iconst X0.here hx rfl (hb hby at_82) ?_
              exact kt
            by_cases hc83 : (p4 &&& (7 : Int32)) = (3 : Int32)
            · have pre10 : ∀ t, Steps p.tables e below (s₁.setTop (mkF m 143 #[iv p0, iv p1, iv p2, iv p3, iv p4, iv p5, iv va, iv vb, iv vc, iv (0 : Int32), iv (p4 &&& (7 : Int32)), iv vb, .unset, .unset, .unset, .unset, .unset, .unset, .unset] [])) t → Steps p.tables e below (s₁.setTop (entryFrame m #[(.int p0), (.int p1), (.int p2), (.int p3), (.int p4), (.int p5)] maxLocals)) t := by
                intro t kt
                refine pre9 _ ?_
                show Steps p.tables e below (s₁.setTop (mkF m 83 #[iv p0, iv p1, iv p2, iv p3, iv p4, iv p5, iv va, iv vb, iv vc, iv (0 : Int32), iv (p4 &&& (7 : Int32)), .unset, .unset, .unset, .unset, .unset, .unset, .unset, .unset] [(.int (3 : Int32)), (.int (p4 &&& (7 : Int32)))])) _
                refine XS.icmpNo X0.here hx rfl (hb hby at_83) rfl (teq hc83).2 ?_
                refine XS.iload X0.here hx rfl (hb hby at_86) rfl ?_
                refine XS.istore X0.here hx rfl (hb hby at_88) rfl (l' := #[iv p0, iv p1, iv p2, iv p3, iv p4, iv p5, iv va, iv vb, iv vc, iv (0 : Int32), iv (p4 &&& (7 : Int32)), iv vb, .unset, .unset, .unset, .unset, .unset, .unset, .unset]) rfl ?_
                refine XS.goto X0.here hx rfl (pc0 := 90) (pc' := 143) rfl (hb hby at_90) (by decide) (by decide) ?_
                exact kt
              exact ⟨vb, trivial, pre10⟩
            · have pre11 : ∀ t, Steps p.tables e below (s₁.setTop (mkF m 96 #[iv p0, iv p1, iv p2, iv p3, iv p4, iv p5, iv va, iv vb, iv vc, iv (0 : Int32), iv (p4 &&& (7 : Int32)), .unset, .unset, .unset, .unset, .unset, .unset, .unset, .unset] [(.int (4 : Int32)), (.int (p4 &&& (7 : Int32)))])) t → Steps p.tables e below (s₁.setTop (entryFrame m #[(.int p0), (.int p1), (.int p2), (.int p3), (.int p4), (.int p5)] maxLocals)) t := by
                intro t kt
                refine pre9 _ ?_
                show Steps p.tables e below (s₁.setTop (mkF m 83 #[iv p0, iv p1, iv p2, iv p3, iv p4, iv p5, iv va, iv vb, iv vc, iv (0 : Int32), iv (p4 &&& (7 : Int32)), .unset, .unset, .unset, .unset, .unset, .unset, .unset, .unset] [(.int (3 : Int32)), (.int (p4 &&& (7 : Int32)))])) _
                refine XS.icmpYes X0.here hx rfl (pc0 := 83) (pc' := 93) rfl (hb hby at_83) rfl (feq hc83).2 (by decide) (by decide) ?_
                refine XS.iload X0.here hx rfl (hb hby at_93) rfl ?_
                refine XS.iconst X0.here hx rfl (hb hby at_95) ?_
                exact kt
              by_cases hc96 : (p4 &&& (7 : Int32)) = (4 : Int32)
              · have pre12 : ∀ t, Steps p.tables e below (s₁.setTop (mkF m 143 #[iv p0, iv p1, iv p2, iv p3, iv p4, iv p5, iv va, iv vb, iv vc, iv (0 : Int32), iv (p4 &&& (7 : Int32)), iv (vb + (1 : Int32)), .unset, .unset, .unset, .unset, .unset, .unset, .unset] [])) t → Steps p.tables e below (s₁.setTop (entryFrame m #[(.int p0), (.int p1), (.int p2), (.int p3), (.int p4), (.int p5)] maxLocals)) t := by
                  intro t kt
                  refine pre11 _ ?_
                  show Steps p.tables e below (s₁.setTop (mkF m 96 #[iv p0, iv p1, iv p2, iv p3, iv p4, iv p5, iv va, iv vb, iv vc, iv (0 : Int32), iv (p4 &&& (7 : Int32)), .unset, .unset, .unset, .unset, .unset, .unset, .unset, .unset] [(.int (4 : Int32)), (.int (p4 &&& (7 : Int32)))])) _
                  refine XS.icmpNo X0.here hx rfl (hb hby at_96) rfl (teq hc96).2 ?_
                  refine XS.iload X0.here hx rfl (hb hby at_99) rfl ?_
                  refine XS.iconst X0.here hx rfl (hb hby at_101) ?_
                  refine XS.iadd X0.here hx rfl (hb hby at_102) rfl ?_
                  refine XS.istore X0.here hx rfl (hb hby at_103) rfl (l' := #[iv p0, iv p1, iv p2, iv p3, iv p4, iv p5, iv va, iv vb, iv vc, iv (0 : Int32), iv (p4 &&& (7 : Int32)), iv (vb + (1 : Int32)), .unset, .unset, .unset, .unset, .unset, .unset, .unset]) rfl ?_
                  refine XS.goto X0.here hx rfl (pc0 := 105) (pc' := 143) rfl (hb hby at_105) (by decide) (by decide) ?_
                  exact kt
                exact ⟨(vb + (1 : Int32)), trivial, pre12⟩
              · have pre13 : ∀ t, Steps p.tables e below (s₁.setTop (mkF m 111 #[iv p0, iv p1, iv p2, iv p3, iv p4, iv p5, iv va, iv vb, iv vc, iv (0 : Int32), iv (p4 &&& (7 : Int32)), .unset, .unset, .unset, .unset, .unset, .unset, .unset, .unset] [(.int (5 : Int32)), (.int (p4 &&& (7 : Int32)))])) t → Steps p.tables e below (s₁.setTop (entryFrame m #[(.int p0), (.int p1), (.int p2), (.int p3), (.int p4), (.int p5)] maxLocals)) t := by
                  intro t kt
                  refine pre11 _ ?_
                  show Steps p.tables e below (s₁.setTop (mkF m 96 #[iv p0, iv p1, iv p2, iv p3, iv p4, iv p5, iv va, iv vb, iv vc, iv (0 : Int32), iv (p4 &&& (7 : Int32)), .unset, .unset, .unset, .unset, .unset, .unset, .unset, .unset] [(.int (4 : Int32)), (.int (p4 &&& (7 : Int32)))])) _
                  refine XS.icmpYes X0.here hx rfl (pc0 := 96) (pc' := 108) rfl (hb hby at_96) rfl (feq hc96).2 (by decide) (by decide) ?_
                  refine XS.iload X0.here hx rfl (hb hby at_108) rfl ?_
                  refine XS.iconst X0.here hx rfl (hb hby at_110) ?_
                  exact kt
                by_cases hc111 : (p4 &&& (7 : Int32)) = (5 : Int32)
                · have pre14 : ∀ t, Steps p.tables e below (s₁.setTop (mkF m 143 #[iv p0, iv p1, iv p2, iv p3, iv p4, iv p5, iv va, iv vb, iv vc, iv (0 : Int32), iv (p4 &&& (7 : Int32)), iv vc, .unset, .unset, .unset, .unset, .unset, .unset, .unset] [])) t → Steps p.tables e below (s₁.setTop (entryFrame m #[(.int p0), (.int p1), (.int p2), (.int p3), (.int p4), (.int p5)] maxLocals)) t := by
                    intro t kt
                    refine pre13 _ ?_
                    show Steps p.tables e below (s₁.setTop (mkF m 111 #[iv p0, iv p1, iv p2, iv p3, iv p4, iv p5, iv va, iv vb, iv vc, iv (0 : Int32), iv (p4 &&& (7 : Int32)), .unset, .unset, .unset, .unset, .unset, .unset, .unset, .unset] [(.int (5 : Int32)), (.int (p4 &&& (7 : Int32)))])) _
                    refine XS.icmpNo X0.here hx rfl (hb hby at_111) rfl (teq hc111).2 ?_
                    refine XS.iload X0.here hx rfl (hb hby at_114) rfl ?_
                    refine XS.istore X0.here hx rfl (hb hby at_116) rfl (l' := #[iv p0, iv p1, iv p2, iv p3, iv p4, iv p5, iv va, iv vb, iv vc, iv (0 : Int32), iv (p4 &&& (7 : Int32)), iv vc, .unset, .unset, .unset, .unset, .unset, .unset, .unset]) rfl ?_
                    refine XS.goto X0.here hx rfl (pc0 := 118) (pc' := 143) rfl (hb hby at_118) (by decide) (by decide) ?_
                    exact kt
                  exact ⟨vc, trivial, pre14⟩
                · have pre15 : ∀ t, Steps p.tables e below (s₁.setTop (mkF m 125 #[iv p0, iv p1, iv p2, iv p3, iv p4, iv p5, iv va, iv vb, iv vc, iv (0 : Int32), iv (p4 &&& (7 : Int32)), .unset, .unset, .unset, .unset, .unset, .unset, .unset, .unset] [(.int (6 : Int32)), (.int (p4 &&& (7 : Int32)))])) t → Steps p.tables e below (s₁.setTop (entryFrame m #[(.int p0), (.int p1), (.int p2), (.int p3), (.int p4), (.int p5)] maxLocals)) t := by
                    intro t kt
                    refine pre13 _ ?_
                    show Steps p.tables e below (s₁.setTop (mkF m 111 #[iv p0, iv p1, iv p2, iv p3, iv p4, iv p5, iv va, iv vb, iv vc, iv (0 : Int32), iv (p4 &&& (7 : Int32)), .unset, .unset, .unset, .unset, .unset, .unset, .unset, .unset] [(.int (5 : Int32)), (.int (p4 &&& (7 : Int32)))])) _
                    refine XS.icmpYes X0.here hx rfl (pc0 := 111) (pc' := 121) rfl (hb hby at_111) rfl (feq hc111).2 (by decide) (by decide) ?_
                    refine XS.iload X0.here hx rfl (hb hby at_121) rfl ?_
                    refine XS.bipush X0.here hx rfl (hb hby at_123) ?_
                    exact kt
                  by_cases hc125 : (p4 &&& (7 : Int32)) = (6 : Int32)
                  · have pre16 : ∀ t, Steps p.tables e below (s₁.setTop (mkF m 143 #[iv p0, iv p1, iv p2, iv p3, iv p4, iv p5, iv va, iv vb, iv vc, iv (0 : Int32), iv (p4 &&& (7 : Int32)), iv (vc + (1 : Int32)), .unset, .unset, .unset, .unset, .unset, .unset, .unset] [])) t → Steps p.tables e below (s₁.setTop (entryFrame m #[(.int p0), (.int p1), (.int p2), (.int p3), (.int p4), (.int p5)] maxLocals)) t := by
                      intro t kt
                      refine pre15 _ ?_
                      show Steps p.tables e below (s₁.setTop (mkF m 125 #[iv p0, iv p1, iv p2, iv p3, iv p4, iv p5, iv va, iv vb, iv vc, iv (0 : Int32), iv (p4 &&& (7 : Int32)), .unset, .unset, .unset, .unset, .unset, .unset, .unset, .unset] [(.int (6 : Int32)), (.int (p4 &&& (7 : Int32)))])) _
                      refine XS.icmpNo X0.here hx rfl (hb hby at_125) rfl (teq hc125).2 ?_
                      refine XS.iload X0.here hx rfl (hb hby at_128) rfl ?_
                      refine XS.iconst X0.here hx rfl (hb hby at_130) ?_
                      refine XS.iadd X0.here hx rfl (hb hby at_131) rfl ?_
                      refine XS.istore X0.here hx rfl (hb hby at_132) rfl (l' := #[iv p0, iv p1, iv p2, iv p3, iv p4, iv p5, iv va, iv vb, iv vc, iv (0 : Int32), iv (p4 &&& (7 : Int32)), iv (vc + (1 : Int32)), .unset, .unset, .unset, .unset, .unset, .unset, .unset]) rfl ?_
                      refine XS.goto X0.here hx rfl (pc0 := 134) (pc' := 143) rfl (hb hby at_134) (by decide) (by decide) ?_
                      exact kt
                    exact ⟨(vc + (1 : Int32)), trivial, pre16⟩
                  · have pre17 : ∀ t, Steps p.tables e below (s₁.setTop (mkF m 143 #[iv p0, iv p1, iv p2, iv p3, iv p4, iv p5, iv va, iv vb, iv vc, iv (0 : Int32), iv (p4 &&& (7 : Int32)), iv (vc - (1 : Int32)), .unset, .unset, .unset, .unset, .unset, .unset, .unset] [])) t → Steps p.tables e below (s₁.setTop (entryFrame m #[(.int p0), (.int p1), (.int p2), (.int p3), (.int p4), (.int p5)] maxLocals)) t := by
                      intro t kt
                      refine pre15 _ ?_
                      show Steps p.tables e below (s₁.setTop (mkF m 125 #[iv p0, iv p1, iv p2, iv p3, iv p4, iv p5, iv va, iv vb, iv vc, iv (0 : Int32), iv (p4 &&& (7 : Int32)), .unset, .unset, .unset, .unset, .unset, .unset, .unset, .unset] [(.int (6 : Int32)), (.int (p4 &&& (7 : Int32)))])) _
                      refine XS.icmpYes X0.here hx rfl (pc0 := 125) (pc' := 137) rfl (hb hby at_125) rfl (feq hc125).2 (by decide) (by decide) ?_
                      refine XS.iload X0.here hx rfl (hb hby at_137) rfl ?_
                      refine XS.iconst X0.here hx rfl (hb hby at_139) ?_
                      refine XS.isub X0.here hx rfl (hb hby at_140) rfl ?_
                      refine XS.istore X0.here hx rfl (hb hby at_141) rfl (l' := #[iv p0, iv p1, iv p2, iv p3, iv p4, iv p5, iv va, iv vb, iv vc, iv (0 : Int32), iv (p4 &&& (7 : Int32)), iv (vc - (1 : Int32)), .unset, .unset, .unset, .unset, .unset, .unset, .unset]) rfl ?_
                      exact kt
                    exact ⟨(vc - (1 : Int32)), trivial, pre17⟩
    obtain ⟨T20, h20, X20, e20, E20, A20, D20, -, st20⟩ := newO X0 hx hZ hown (hw _ (List.mem_of_getElem? (i := 1) rfl)) (hw _ (List.mem_of_getElem? (i := 2) rfl)) (hw _ (List.mem_of_getElem? (i := 3) rfl)) e0 (g := (mkF m 143 #[iv p0, iv p1, iv p2, iv p3, iv p4, iv p5, iv va, iv vb, iv vc, iv (0 : Int32), iv (p4 &&& (7 : Int32)), iv off, .unset, .unset, .unset, .unset, .unset, .unset, .unset] [])) rfl (hb hby at_143) (by decide) (by decide)
    obtain ⟨b20, g20⟩ : ∃ z, z = h0.size := ⟨_, rfl⟩
    rw [← g20] at A20 D20 st20
    have g_b20 : n0 ≤ b20 := Nat.le_trans (Nat.le_trans Z0 (Keep.refl h0 []).1) (Nat.le_of_eq g20.symm)
    have sz_b20 : h0.size ≤ b20 := Nat.le_trans (Keep.refl h0 []).1 (Nat.le_of_eq g20.symm)
    have F_offsets_b20 : Fld Z h20 b20 "com/example/bytewright/bytewright/grid/ObjectStarts" "offsets" "[I" .null := D20 (Or.inl (hw _ (List.mem_of_getElem? (i := 12) rfl))) (ty := (.array .int)) (by decide)
    have F_count_b20 : Fld Z h20 b20 "com/example/bytewright/bytewright/grid/ObjectStarts" "count" "I" (.int (0 : Int32)) := D20 (Or.inl (hw _ (List.mem_of_getElem? (i := 19) rfl))) (ty := .int) (by decide)
    have K20 : Keep h0 h20 [] := (Keep.refl h0 []).ext E20
    have pre21 : ∀ t, Steps p.tables e below (T20.setTop (mkF m 147 #[iv p0, iv p1, iv p2, iv p3, iv p4, iv p5, iv va, iv vb, iv vc, iv (0 : Int32), iv (p4 &&& (7 : Int32)), iv off, .unset, .unset, .unset, .unset, .unset, .unset, .unset] [(.ref b20), (.ref b20)])) t → Steps p.tables e below (s₁.setTop (entryFrame m #[(.int p0), (.int p1), (.int p2), (.int p3), (.int p4), (.int p5)] maxLocals)) t := by
      intro t kt
      refine pre19 _ ?_
      show Steps p.tables e below (s₁.setTop (mkF m 143 #[iv p0, iv p1, iv p2, iv p3, iv p4, iv p5, iv va, iv vb, iv vc, iv (0 : Int32), iv (p4 &&& (7 : Int32)), iv off, .unset, .unset, .unset, .unset, .unset, .unset, .unset] [])) _
      refine st20 _ ?_
      show Steps p.tables e below (T20.setTop (mkF m 146 #[iv p0, iv p1, iv p2, iv p3, iv p4, iv p5, iv va, iv vb, iv vc, iv (0 : Int32), iv (p4 &&& (7 : Int32)), iv off, .unset, .unset, .unset, .unset, .unset, .unset, .unset] [(.ref b20)])) _
      refine XS.dup X20.here hx rfl (hb hby at_146) rfl rfl ?_
      exact kt
    obtain ⟨_, _, ⟨T22, L22, k22, n22⟩, -, X22, ⟨Lc22, hQ22, l22, y22, z22⟩, st22⟩ := X20.specialBack hx (y := (⟨"com/example/bytewright/bytewright/grid/ObjectStarts", "<init>", "()V"⟩ : MethodName)) rfl hown (mvT hZ (hw _ (List.mem_of_getElem? (i := 4) rfl))) (mvT hZ (hw _ (List.mem_of_getElem? (i := 5) rfl))) (mvT hZ (hw _ (List.mem_of_getElem? (i := 6) rfl))) (by decide) (backOf (W := 1) (rm1 l Z a0 hw [] b20 h20 n0 (Nat.le_trans Z0 K20.1) F_offsets_b20 F_count_b20 A20 g_b20) hZ (hw _ (List.mem_of_getElem? (i := 6) rfl)) (hw _ (List.mem_of_getElem? (i := 3) rfl)) (by decide) (by decide)) (g := (mkF m 147 #[iv p0, iv p1, iv p2, iv p3, iv p4, iv p5, iv va, iv vb, iv vc, iv (0 : Int32), iv (p4 &&& (7 : Int32)), iv off, .unset, .unset, .unset, .unset, .unset, .unset, .unset] [(.ref b20), (.ref b20)])) rfl (by rw [hml]; rfl) (Steps.refl _) (a := b20) (argsL := []) (rest := [(.ref b20)]) (lenOf pd5 rfl) rfl (by show 2 * 0 + _ ≤ _; exact Nat.le_of_eq rfl) (hb hby at_147) (fun _ _ => ⟨rfl, e20, (by decide : 1 + 1 ≤ _), (by decide : 2 + 16 ≤ _)⟩)
    dsimp only [Pt.U, Pt.locs, Pt.cells, Pt.slots] at X22 l22 y22 z22 st22 hQ22
    subst l22 y22 z22
    obtain ⟨ab22, kb22, rfl, N22q, Kc22, hsz22, Fo22, Fn22, Va22⟩ := hQ22
    have N22 := Fr.app N0 N22q
    have K22 : Keep h0 T22.heap [] := K20.trans Kc22 (allS (Or.inr sz_b20) all0)
    have g_ab22 : n0 ≤ ab22 := Nat.le_trans (Nat.le_trans Z0 K20.1) hsz22
    have sz_ab22 : h0.size ≤ ab22 := Nat.le_trans K20.1 hsz22
    have hne22 : b20 ≠ ab22 := Nat.ne_of_lt (Nat.lt_of_lt_of_le A20.lt hsz22)
    have pre23 : ∀ t, Steps p.tables e below (T22.setTop (mkF m 198 #[iv p0, iv p1, iv p2, iv p3, iv p4, iv p5, iv va, iv vb, iv vc, iv (0 : Int32), iv (p4 &&& (7 : Int32)), iv off, rv b20, .unset, .unset, .unset, .unset, .unset, .unset] [(.int off), (.ref b20)])) t → Steps p.tables e below (s₁.setTop (entryFrame m #[(.int p0), (.int p1), (.int p2), (.int p3), (.int p4), (.int p5)] maxLocals)) t := by
      intro t kt
      refine pre21 _ ?_
      show Steps p.tables e below (T20.setTop (mkF m 147 #[iv p0, iv p1, iv p2, iv p3, iv p4, iv p5, iv va, iv vb, iv vc, iv (0 : Int32), iv (p4 &&& (7 : Int32)), iv off, .unset, .unset, .unset, .unset, .unset, .unset, .unset] [(.ref b20), (.ref b20)])) _
      refine st22.trans ?_
      show Steps p.tables e below (T22.setTop (mkF m 150 #[iv p0, iv p1, iv p2, iv p3, iv p4, iv p5, iv va, iv vb, iv vc, iv (0 : Int32), iv (p4 &&& (7 : Int32)), iv off, .unset, .unset, .unset, .unset, .unset, .unset, .unset] [(.ref b20)])) _
      refine XS.astore X22.here hx rfl (hb hby at_150) rfl rfl (l' := #[iv p0, iv p1, iv p2, iv p3, iv p4, iv p5, iv va, iv vb, iv vc, iv (0 : Int32), iv (p4 &&& (7 : Int32)), iv off, rv b20, .unset, .unset, .unset, .unset, .unset, .unset]) rfl ?_
      refine XS.iload X22.here hx rfl (hb hby at_152) rfl ?_
      refine XS.iconst X22.here hx rfl (hb hby at_154) ?_
      refine XS.icmpYes X22.here hx rfl (pc0 := 155) (pc' := 166) rfl (hb hby at_155) rfl (tlt (by decide)).1 (by decide) (by decide) ?_
      refine XS.iload X22.here hx rfl (hb hby at_166) rfl ?_
      refine XS.iconst X22.here hx rfl (hb hby at_168) ?_
      refine XS.icmpYes X22.here hx rfl (pc0 := 169) (pc' := 180) rfl (hb hby at_169) rfl (tlt (by decide)).1 (by decide) (by decide) ?_
      refine XS.iload X22.here hx rfl (hb hby at_180) rfl ?_
      show Steps p.tables e below (T22.setTop (mkF m 182 #[iv p0, iv p1, iv p2, iv p3, iv p4, iv p5, iv va, iv vb, iv vc, iv (0 : Int32), iv (p4 &&& (7 : Int32)), iv off, rv b20, .unset, .unset, .unset, .unset, .unset, .unset] [(.int (0 : Int32))])) _
      refine XS.iconst X22.here hx rfl (hb hby at_182) ?_
      refine XS.icmpYes X22.here hx rfl (pc0 := 183) (pc' := 194) rfl (hb hby at_183) rfl (tlt (by decide)).1 (by decide) (by decide) ?_
      refine XS.aload X22.here hx rfl (hb hby at_194) rfl rfl ?_
      refine XS.iload X22.here hx rfl (hb hby at_196) rfl ?_
      exact kt
    obtain ⟨cq24, kq24, q24a, q24b, q24c⟩ := isOf hZ rfl (A20.keep Kc22)
    obtain ⟨_, _, ⟨T24, L24, k24, n24⟩, -, X24, ⟨Lc24, hQ24, l24, y24, z24⟩, st24⟩ := X22.virtualBack hx (y := (⟨"com/example/bytewright/bytewright/grid/ObjectStarts", "forgetFrom", "(I)V"⟩ : MethodName)) (z := (⟨"com/example/bytewright/bytewright/grid/ObjectStarts", "forgetFrom", "(I)V"⟩ : MethodName)) hown (mvT hZ (hw _ (List.mem_of_getElem? (i := 20) rfl))) (mvT hZ (hw _ (List.mem_of_getElem? (i := 21) rfl))) (notFace_of_selects (args := #[]) (mvT hZ (hw _ (List.mem_of_getElem? (i := 23) rfl)))) (mvT hZ (hw _ (List.mem_of_getElem? (i := 23) rfl))) (mvT hZ (hw _ (List.mem_of_getElem? (i := 22) rfl))) (by decide) (backOf (W := 0) (rm4c0 l Z a0 hw [] b20 off ab22 kb22 (0 : Int32) (0 : Int32) (0 : Int32) (0 : Int32) T22.heap n0 (Nat.le_trans Z0 K22.1) Fo22 Fn22 (A20.keep Kc22) g_b20 Va22 g_ab22 hne22) hZ (hw _ (List.mem_of_getElem? (i := 24) rfl)) (hw _ (List.mem_of_getElem? (i := 3) rfl)) (by decide) (by decide)) q24a q24c (g := (mkF m 198 #[iv p0, iv p1, iv p2, iv p3, iv p4, iv p5, iv va, iv vb, iv vc, iv (0 : Int32), iv (p4 &&& (7 : Int32)), iv off, rv b20, .unset, .unset, .unset, .unset, .unset, .unset] [(.int off), (.ref b20)])) rfl (by rw [hml]; rfl) (Steps.refl _) (argsL := [(.int off)]) (rest := []) (lenOf pd6 rfl) rfl (by show 2 * 0 + _ ≤ _; exact Nat.le_of_eq rfl) (hb hby at_198) (fun _ _ => ⟨rfl, rfl, (by decide : 2 + 0 ≤ _), (by decide : 18 + 0 ≤ _)⟩)
    dsimp only [Pt.U, Pt.locs, Pt.cells, Pt.slots] at X24 l24 y24 z24 st24 hQ24
    subst l24 y24 z24
    obtain ⟨kk24, rfl, N24q, Kc24, Fo24, Fn24, Va24, hs24⟩ := hQ24
    have N24 := Fr.app N22 N24q
    have K24 : Keep h0 T24.heap [] := K22.trans Kc24 (allS (Or.inr sz_b20) (allS (Or.inr sz_ab22) all0))
    have pre25 : ∀ t, Steps p.tables e below (T24.setTop (mkF m 201 #[iv p0, iv p1, iv p2, iv p3, iv p4, iv p5, iv va, iv vb, iv vc, iv (0 : Int32), iv (p4 &&& (7 : Int32)), iv off, rv b20, .unset, .unset, .unset, .unset, .unset, .unset] [])) t → Steps p.tables e below (s₁.setTop (entryFrame m #[(.int p0), (.int p1), (.int p2), (.int p3), (.int p4), (.int p5)] maxLocals)) t := by
      intro t kt
      refine pre23 _ ?_
      show Steps p.tables e below (T22.setTop (mkF m 198 #[iv p0, iv p1, iv p2, iv p3, iv p4, iv p5, iv va, iv vb, iv vc, iv (0 : Int32), iv (p4 &&& (7 : Int32)), iv off, rv b20, .unset, .unset, .unset, .unset, .unset, .unset] [(.int off), (.ref b20)])) _
      refine st24.trans ?_
      exact kt
    rcases hs24 with rfl
    · have hkk := Nat.le_refl 0
      obtain ⟨vt, h_vt⟩ : ∃ z : Int32, z = (vc + (1 : Int32)) := ⟨_, rfl⟩
      have hvt := own_next vc vt h_vt (by omega)
      have pre26 : ∀ t, Steps p.tables e below (T24.setTop (mkF m 310 #[iv p0, iv p1, iv p2, iv p3, iv p4, iv p5, iv va, iv vb, iv vc, iv (0 : Int32), iv (p4 &&& (7 : Int32)), iv off, rv b20, iv (0 : Int32), iv (0 : Int32), iv (0 : Int32), iv (0 : Int32), iv vt, .unset] [(.int (vt - va)), (.int vt), (.ref b20)])) t → Steps p.tables e below (s₁.setTop (entryFrame m #[(.int p0), (.int p1), (.int p2), (.int p3), (.int p4), (.int p5)] maxLocals)) t := by
        intro t kt
        refine pre25 _ ?_
        show Steps p.tables e below (T24.setTop (mkF m 201 #[iv p0, iv p1, iv p2, iv p3, iv p4, iv p5, iv va, iv vb, iv vc, iv (0 : Int32), iv (p4 &&& (7 : Int32)), iv off, rv b20, .unset, .unset, .unset, .unset, .unset, .unset] [])) _
        refine XS.iload X24.here hx rfl (hb hby at_201) rfl ?_
        refine XS.iconst X24.here hx rfl (hb hby at_203) ?_
        refine XS.icmpYes X24.here hx rfl (pc0 := 204) (pc' := 218) rfl (hb hby at_204) rfl (tlt (by decide)).1 (by decide) (by decide) ?_
        refine XS.iconst X24.here hx rfl (hb hby at_218) ?_
        refine XS.istore X24.here hx rfl (hb hby at_219) rfl (l' := #[iv p0, iv p1, iv p2, iv p3, iv p4, iv p5, iv va, iv vb, iv vc, iv (0 : Int32), iv (p4 &&& (7 : Int32)), iv off, rv b20, iv (0 : Int32), .unset, .unset, .unset, .unset, .unset]) rfl ?_
        refine XS.iload X24.here hx rfl (hb hby at_221) rfl ?_
        refine XS.iconst X24.here hx rfl (hb hby at_223) ?_
        refine XS.icmpYes X24.here hx rfl (pc0 := 224) (pc' := 238) rfl (hb hby at_224) rfl (tlt (by decide)).1 (by decide) (by decide) ?_
        show Steps p.tables e below (T24.setTop (mkF m 238 #[iv p0, iv p1, iv p2, iv p3, iv p4, iv p5, iv va, iv vb, iv vc, iv (0 : Int32), iv (p4 &&& (7 : Int32)), iv off, rv b20, iv (0 : Int32), .unset, .unset, .unset, .unset, .unset] [])) _
        refine XS.iconst X24.here hx rfl (hb hby at_238) ?_
        refine XS.istore X24.here hx rfl (hb hby at_239) rfl (l' := #[iv p0, iv p1, iv p2, iv p3, iv p4, iv p5, iv va, iv vb, iv vc, iv (0 : Int32), iv (p4 &&& (7 : Int32)), iv off, rv b20, iv (0 : Int32), iv (0 : Int32), .unset, .unset, .unset, .unset]) rfl ?_
        refine XS.iload X24.here hx rfl (hb hby at_241) rfl ?_
        refine XS.iconst X24.here hx rfl (hb hby at_243) ?_
        refine XS.icmpYes X24.here hx rfl (pc0 := 244) (pc' := 258) rfl (hb hby at_244) rfl (tlt (by decide)).1 (by decide) (by decide) ?_
        refine XS.iconst X24.here hx rfl (hb hby at_258) ?_
        refine XS.istore X24.here hx rfl (hb hby at_259) rfl (l' := #[iv p0, iv p1, iv p2, iv p3, iv p4, iv p5, iv va, iv vb, iv vc, iv (0 : Int32), iv (p4 &&& (7 : Int32)), iv off, rv b20, iv (0 : Int32), iv (0 : Int32), iv (0 : Int32), .unset, .unset, .unset]) rfl ?_
        refine XS.iload X24.here hx rfl (hb hby at_261) rfl ?_
        show Steps p.tables e below (T24.setTop (mkF m 263 #[iv p0, iv p1, iv p2, iv p3, iv p4, iv p5, iv va, iv vb, iv vc, iv (0 : Int32), iv (p4 &&& (7 : Int32)), iv off, rv b20, iv (0 : Int32), iv (0 : Int32), iv (0 : Int32), .unset, .unset, .unset] [(.int (0 : Int32))])) _
        refine XS.ifYes X24.here hx rfl (pc0 := 263) (pc' := 270) rfl (hb hby at_263) rfl ((if0 _ _).trans (teq (by decide)).1) (by decide) (by decide) ?_
        refine XS.iconst X24.here hx rfl (hb hby at_270) ?_
        refine XS.iload X24.here hx rfl (hb hby at_271) rfl ?_
        refine XS.ifYes X24.here hx rfl (pc0 := 273) (pc' := 280) rfl (hb hby at_273) rfl ((if0 _ _).trans (teq (by decide)).1) (by decide) (by decide) ?_
        refine XS.iconst X24.here hx rfl (hb hby at_280) ?_
        refine XS.iadd X24.here hx rfl (hb hby at_281) rfl ?_
        show Steps p.tables e below (T24.setTop (mkF m 282 #[iv p0, iv p1, iv p2, iv p3, iv p4, iv p5, iv va, iv vb, iv vc, iv (0 : Int32), iv (p4 &&& (7 : Int32)), iv off, rv b20, iv (0 : Int32), iv (0 : Int32), iv (0 : Int32), .unset, .unset, .unset] [(.int ((0 : Int32) + (0 : Int32)))])) _
        rw [show ((0 : Int32) + (0 : Int32)) = (0 : Int32) from (by decide)]
        show Steps p.tables e below (T24.setTop (mkF m 282 #[iv p0, iv p1, iv p2, iv p3, iv p4, iv p5, iv va, iv vb, iv vc, iv (0 : Int32), iv (p4 &&& (7 : Int32)), iv off, rv b20, iv (0 : Int32), iv (0 : Int32), iv (0 : Int32), .unset, .unset, .unset] [(.int (0 : Int32))])) _
        refine XS.iload X24.here hx rfl (hb hby at_282) rfl ?_
        refine XS.ifYes X24.here hx rfl (pc0 := 284) (pc' := 291) rfl (hb hby at_284) rfl ((if0 _ _).trans (teq (by decide)).1) (by decide) (by decide) ?_
        refine XS.iconst X24.here hx rfl (hb hby at_291) ?_
        refine XS.iadd X24.here hx rfl (hb hby at_292) rfl ?_
        show Steps p.tables e below (T24.setTop (mkF m 293 #[iv p0, iv p1, iv p2, iv p3, iv p4, iv p5, iv va, iv vb, iv vc, iv (0 : Int32), iv (p4 &&& (7 : Int32)), iv off, rv b20, iv (0 : Int32), iv (0 : Int32), iv (0 : Int32), .unset, .unset, .unset] [(.int ((0 : Int32) + (0 : Int32)))])) _
        rw [show ((0 : Int32) + (0 : Int32)) = (0 : Int32) from (by decide)]
        show Steps p.tables e below (T24.setTop (mkF m 293 #[iv p0, iv p1, iv p2, iv p3, iv p4, iv p5, iv va, iv vb, iv vc, iv (0 : Int32), iv (p4 &&& (7 : Int32)), iv off, rv b20, iv (0 : Int32), iv (0 : Int32), iv (0 : Int32), .unset, .unset, .unset] [(.int (0 : Int32))])) _
        refine XS.istore X24.here hx rfl (hb hby at_293) rfl (l' := #[iv p0, iv p1, iv p2, iv p3, iv p4, iv p5, iv va, iv vb, iv vc, iv (0 : Int32), iv (p4 &&& (7 : Int32)), iv off, rv b20, iv (0 : Int32), iv (0 : Int32), iv (0 : Int32), iv (0 : Int32), .unset, .unset]) rfl ?_
        refine XS.iload X24.here hx rfl (hb hby at_295) rfl ?_
        refine XS.iconst X24.here hx rfl (hb hby at_297) ?_
        refine XS.iadd X24.here hx rfl (hb hby at_298) rfl ?_
        refine XS.istore X24.here hx rfl (hb hby at_299) rfl (l' := #[iv p0, iv p1, iv p2, iv p3, iv p4, iv p5, iv va, iv vb, iv vc, iv (0 : Int32), iv (p4 &&& (7 : Int32)), iv off, rv b20, iv (0 : Int32), iv (0 : Int32), iv (0 : Int32), iv (0 : Int32), iv (vc + (1 : Int32)), .unset]) rfl ?_
        show Steps p.tables e below (T24.setTop (mkF m 301 #[iv p0, iv p1, iv p2, iv p3, iv p4, iv p5, iv va, iv vb, iv vc, iv (0 : Int32), iv (p4 &&& (7 : Int32)), iv off, rv b20, iv (0 : Int32), iv (0 : Int32), iv (0 : Int32), iv (0 : Int32), iv (vc + (1 : Int32)), .unset] [])) _
        rw [← h_vt]
        show Steps p.tables e below (T24.setTop (mkF m 301 #[iv p0, iv p1, iv p2, iv p3, iv p4, iv p5, iv va, iv vb, iv vc, iv (0 : Int32), iv (p4 &&& (7 : Int32)), iv off, rv b20, iv (0 : Int32), iv (0 : Int32), iv (0 : Int32), iv (0 : Int32), iv vt, .unset] [])) _
        refine XS.aload X24.here hx rfl (hb hby at_301) rfl rfl ?_
        refine XS.iload X24.here hx rfl (hb hby at_303) rfl ?_
        refine XS.iload X24.here hx rfl (hb hby at_305) rfl ?_
        refine XS.iload X24.here hx rfl (hb hby at_307) rfl ?_
        refine XS.isub X24.here hx rfl (hb hby at_309) rfl ?_
        exact kt
      obtain ⟨cq27, kq27, q27a, q27b, q27c⟩ := isOf hZ rfl ((A20.keep Kc22).keep Kc24)
      obtain ⟨_, _, ⟨T27, L27, k27, n27⟩, -, X27, ⟨Lc27, hQ27, l27, y27, z27⟩, st27⟩ := X24.virtualBack hx (y := (⟨"com/example/bytewright/bytewright/grid/ObjectStarts", "indexOf", "(II)I"⟩ : MethodName)) (z := (⟨"com/example/bytewright/bytewright/grid/ObjectStarts", "indexOf", "(II)I"⟩ : MethodName)) hown (mvT hZ (hw _ (List.mem_of_getElem? (i := 25) rfl))) (mvT hZ (hw _ (List.mem_of_getElem? (i := 26) rfl))) (notFace_of_selects (args := #[]) (mvT hZ (hw _ (List.mem_of_getElem? (i := 28) rfl)))) (mvT hZ (hw _ (List.mem_of_getElem? (i := 28) rfl))) (mvT hZ (hw _ (List.mem_of_getElem? (i := 27) rfl))) (by decide) (backOf (W := 0) (rm5c0 l Z a0 hw [] b20 vt (vt - va) ab22 kb22 (0 : Int32) (0 : Int32) (0 : Int32) (0 : Int32) va T24.heap n0 (Nat.le_trans Z0 K24.1) Fo24 Fn24 ((A20.keep Kc22).keep Kc24) Va24 hne22 (own_key vt va (by have := own_next vc vt h_vt (by omega); omega)).1 (own_key vt va (by have := own_next vc vt h_vt (by omega); omega)).2.1 (own_key vt va (by have := own_next vc vt h_vt (by omega); omega)).2.2) hZ (hw _ (List.mem_of_getElem? (i := 29) rfl)) (hw _ (List.mem_of_getElem? (i := 3) rfl)) (by decide) (by decide)) q27a q27c (g := (mkF m 310 #[iv p0, iv p1, iv p2, iv p3, iv p4, iv p5, iv va, iv vb, iv vc, iv (0 : Int32), iv (p4 &&& (7 : Int32)), iv off, rv b20, iv (0 : Int32), iv (0 : Int32), iv (0 : Int32), iv (0 : Int32), iv vt, .unset] [(.int (vt - va)), (.int vt), (.ref b20)])) rfl (by rw [hml]; rfl) (Steps.refl _) (argsL := [(.int vt), (.int (vt - va))]) (rest := []) (lenOf pd7 rfl) rfl (by show 2 * 0 + _ ≤ _; exact Nat.le_of_eq rfl) (hb hby at_310) (fun _ _ => ⟨rfl, rfl, (by decide : 2 + 0 ≤ _), (by decide : 18 + 0 ≤ _)⟩)
      dsimp only [Pt.U, Pt.locs, Pt.cells, Pt.slots] at X27 l27 y27 z27 st27 hQ27
      subst l27 y27 z27
      obtain ⟨rfl, N27q, hh27⟩ := hQ27
      have N27 := Fr.app N24 N27q
      have pre29 : ∀ t, Steps p.tables e below (T27.setTop (mkF m 323 #[iv p0, iv p1, iv p2, iv p3, iv p4, iv p5, iv va, iv vb, iv vc, iv (0 : Int32), iv (p4 &&& (7 : Int32)), iv off, rv b20, iv (0 : Int32), iv (0 : Int32), iv (0 : Int32), iv (0 : Int32), iv vt, .unset] [(.int (-1 : Int32)), (.int (own_ix0 va (0 : Int32) (0 : Int32) (0 : Int32) (0 : Int32)))])) t → Steps p.tables e below (s₁.setTop (entryFrame m #[(.int p0), (.int p1), (.int p2), (.int p3), (.int p4), (.int p5)] maxLocals)) t := by
        intro t kt
        refine pre26 _ ?_
        show Steps p.tables e below (T24.setTop (mkF m 310 #[iv p0, iv p1, iv p2, iv p3, iv p4, iv p5, iv va, iv vb, iv vc, iv (0 : Int32), iv (p4 &&& (7 : Int32)), iv off, rv b20, iv (0 : Int32), iv (0 : Int32), iv (0 : Int32), iv (0 : Int32), iv vt, .unset] [(.int (vt - va)), (.int vt), (.ref b20)])) _
        refine st27.trans ?_
        show Steps p.tables e below (T27.setTop (mkF m 313 #[iv p0, iv p1, iv p2, iv p3, iv p4, iv p5, iv va, iv vb, iv vc, iv (0 : Int32), iv (p4 &&& (7 : Int32)), iv off, rv b20, iv (0 : Int32), iv (0 : Int32), iv (0 : Int32), iv (0 : Int32), iv vt, .unset] [(.int (own_ix0 va (0 : Int32) (0 : Int32) (0 : Int32) (0 : Int32)))])) _
        refine XS.iload X27.here hx rfl (hb hby at_313) rfl ?_
        refine XS.ifYes X27.here hx rfl (pc0 := 315) (pc' := 322) rfl (hb hby at_315) rfl ((if0 _ _).trans (teq (by decide)).1) (by decide) (by decide) ?_
        refine XS.iconst X27.here hx rfl (hb hby at_322) ?_
        exact kt
      have hc323_28 : (own_ix0 va (0 : Int32) (0 : Int32) (0 : Int32) (0 : Int32)) = (-1 : Int32) := by simp +decide [own_ix0, own_bs0, hab, hbc, hac, nba, ncb, nca, Int32.lt_irrefl]
      have pre30 : ∀ t, Steps p.tables e below (T27.setTop (mkF m 335 #[iv p0, iv p1, iv p2, iv p3, iv p4, iv p5, iv va, iv vb, iv vc, iv (0 : Int32), iv (p4 &&& (7 : Int32)), iv off, rv b20, iv (0 : Int32), iv (0 : Int32), iv (0 : Int32), iv (0 : Int32), iv vt, .unset] [(.int (vt - vb)), (.int vt), (.ref b20)])) t → Steps p.tables e below (s₁.setTop (entryFrame m #[(.int p0), (.int p1), (.int p2), (.int p3), (.int p4), (.int p5)] maxLocals)) t := by
        intro t kt
        refine pre29 _ ?_
        show Steps p.tables e below (T27.setTop (mkF m 323 #[iv p0, iv p1, iv p2, iv p3, iv p4, iv p5, iv va, iv vb, iv vc, iv (0 : Int32), iv (p4 &&& (7 : Int32)), iv off, rv b20, iv (0 : Int32), iv (0 : Int32), iv (0 : Int32), iv (0 : Int32), iv vt, .unset] [(.int (-1 : Int32)), (.int (own_ix0 va (0 : Int32) (0 : Int32) (0 : Int32) (0 : Int32)))])) _
        refine XS.icmpNo X27.here hx rfl (hb hby at_323) rfl (teq hc323_28).2 ?_
        refine XS.aload X27.here hx rfl (hb hby at_326) rfl rfl ?_
        refine XS.iload X27.here hx rfl (hb hby at_328) rfl ?_
        refine XS.iload X27.here hx rfl (hb hby at_330) rfl ?_
        refine XS.iload X27.here hx rfl (hb hby at_332) rfl ?_
        refine XS.isub X27.here hx rfl (hb hby at_334) rfl ?_
        exact kt
      obtain ⟨cq31, kq31, q31a, q31b, q31c⟩ := isOf hZ hh27 ((A20.keep Kc22).keep Kc24)
      obtain ⟨_, _, ⟨T31, L31, k31, n31⟩, -, X31, ⟨Lc31, hQ31, l31, y31, z31⟩, st31⟩ := X27.virtualBack hx (y := (⟨"com/example/bytewright/bytewright/grid/ObjectStarts", "indexOf", "(II)I"⟩ : MethodName)) (z := (⟨"com/example/bytewright/bytewright/grid/ObjectStarts", "indexOf", "(II)I"⟩ : MethodName)) hown (mvT hZ (hw _ (List.mem_of_getElem? (i := 25) rfl))) (mvT hZ (hw _ (List.mem_of_getElem? (i := 26) rfl))) (notFace_of_selects (args := #[]) (mvT hZ (hw _ (List.mem_of_getElem? (i := 28) rfl)))) (mvT hZ (hw _ (List.mem_of_getElem? (i := 28) rfl))) (mvT hZ (hw _ (List.mem_of_getElem? (i := 27) rfl))) (by decide) (backOf (W := 0) (rm5c0 l Z a0 hw [] b20 vt (vt - vb) ab22 kb22 (0 : Int32) (0 : Int32) (0 : Int32) (0 : Int32) vb T24.heap n0 (Nat.le_trans Z0 K24.1) Fo24 Fn24 ((A20.keep Kc22).keep Kc24) Va24 hne22 (own_key vt vb (by have := own_next vc vt h_vt (by omega); omega)).1 (own_key vt vb (by have := own_next vc vt h_vt (by omega); omega)).2.1 (own_key vt vb (by have := own_next vc vt h_vt (by omega); omega)).2.2) hZ (hw _ (List.mem_of_getElem? (i := 29) rfl)) (hw _ (List.mem_of_getElem? (i := 3) rfl)) (by decide) (by decide)) q31a q31c (g := (mkF m 335 #[iv p0, iv p1, iv p2, iv p3, iv p4, iv p5, iv va, iv vb, iv vc, iv (0 : Int32), iv (p4 &&& (7 : Int32)), iv off, rv b20, iv (0 : Int32), iv (0 : Int32), iv (0 : Int32), iv (0 : Int32), iv vt, .unset] [(.int (vt - vb)), (.int vt), (.ref b20)])) rfl (by rw [hml]; rfl) (Steps.refl _) (argsL := [(.int vt), (.int (vt - vb))]) (rest := []) (lenOf pd7 rfl) rfl (by show 2 * 0 + _ ≤ _; exact Nat.le_of_eq rfl) (hb hby at_335) (fun _ _ => ⟨rfl, hh27, (by decide : 2 + 0 ≤ _), (by decide : 18 + 0 ≤ _)⟩)
      dsimp only [Pt.U, Pt.locs, Pt.cells, Pt.slots] at X31 l31 y31 z31 st31 hQ31
      subst l31 y31 z31
      obtain ⟨rfl, N31q, hh31⟩ := hQ31
      have N31 := Fr.app N27 N31q
      have pre33 : ∀ t, Steps p.tables e below (T31.setTop (mkF m 348 #[iv p0, iv p1, iv p2, iv p3, iv p4, iv p5, iv va, iv vb, iv vc, iv (0 : Int32), iv (p4 &&& (7 : Int32)), iv off, rv b20, iv (0 : Int32), iv (0 : Int32), iv (0 : Int32), iv (0 : Int32), iv vt, .unset] [(.int (-1 : Int32)), (.int (own_ix0 vb (0 : Int32) (0 : Int32) (0 : Int32) (0 : Int32)))])) t → Steps p.tables e below (s₁.setTop (entryFrame m #[(.int p0), (.int p1), (.int p2), (.int p3), (.int p4), (.int p5)] maxLocals)) t := by
        intro t kt
        refine pre30 _ ?_
        show Steps p.tables e below (T27.setTop (mkF m 335 #[iv p0, iv p1, iv p2, iv p3, iv p4, iv p5, iv va, iv vb, iv vc, iv (0 : Int32), iv (p4 &&& (7 : Int32)), iv off, rv b20, iv (0 : Int32), iv (0 : Int32), iv (0 : Int32), iv (0 : Int32), iv vt, .unset] [(.int (vt - vb)), (.int vt), (.ref b20)])) _
        refine st31.trans ?_
        show Steps p.tables e below (T31.setTop (mkF m 338 #[iv p0, iv p1, iv p2, iv p3, iv p4, iv p5, iv va, iv vb, iv vc, iv (0 : Int32), iv (p4 &&& (7 : Int32)), iv off, rv b20, iv (0 : Int32), iv (0 : Int32), iv (0 : Int32), iv (0 : Int32), iv vt, .unset] [(.int (own_ix0 vb (0 : Int32) (0 : Int32) (0 : Int32) (0 : Int32)))])) _
        refine XS.iload X31.here hx rfl (hb hby at_338) rfl ?_
        refine XS.ifYes X31.here hx rfl (pc0 := 340) (pc' := 347) rfl (hb hby at_340) rfl ((if0 _ _).trans (teq (by decide)).1) (by decide) (by decide) ?_
        refine XS.iconst X31.here hx rfl (hb hby at_347) ?_
        exact kt
      have hc348_32 : (own_ix0 vb (0 : Int32) (0 : Int32) (0 : Int32) (0 : Int32)) = (-1 : Int32) := by simp +decide [own_ix0, own_bs0, hab, hbc, hac, nba, ncb, nca, Int32.lt_irrefl]
      have pre34 : ∀ t, Steps p.tables e below (T31.setTop (mkF m 360 #[iv p0, iv p1, iv p2, iv p3, iv p4, iv p5, iv va, iv vb, iv vc, iv (0 : Int32), iv (p4 &&& (7 : Int32)), iv off, rv b20, iv (0 : Int32), iv (0 : Int32), iv (0 : Int32), iv (0 : Int32), iv vt, .unset] [(.int (vt - vc)), (.int vt), (.ref b20)])) t → Steps p.tables e below (s₁.setTop (entryFrame m #[(.int p0), (.int p1), (.int p2), (.int p3), (.int p4), (.int p5)] maxLocals)) t := by
        intro t kt
        refine pre33 _ ?_
        show Steps p.tables e below (T31.setTop (mkF m 348 #[iv p0, iv p1, iv p2, iv p3, iv p4, iv p5, iv va, iv vb, iv vc, iv (0 : Int32), iv (p4 &&& (7 : Int32)), iv off, rv b20, iv (0 : Int32), iv (0 : Int32), iv (0 : Int32), iv (0 : Int32), iv vt, .unset] [(.int (-1 : Int32)), (.int (own_ix0 vb (0 : Int32) (0 : Int32) (0 : Int32) (0 : Int32)))])) _
        refine XS.icmpNo X31.here hx rfl (hb hby at_348) rfl (teq hc348_32).2 ?_
        refine XS.aload X31.here hx rfl (hb hby at_351) rfl rfl ?_
        refine XS.iload X31.here hx rfl (hb hby at_353) rfl ?_
        refine XS.iload X31.here hx rfl (hb hby at_355) rfl ?_
        refine XS.iload X31.here hx rfl (hb hby at_357) rfl ?_
        refine XS.isub X31.here hx rfl (hb hby at_359) rfl ?_
        exact kt
      obtain ⟨cq35, kq35, q35a, q35b, q35c⟩ := isOf hZ hh31 ((A20.keep Kc22).keep Kc24)
      obtain ⟨_, _, ⟨T35, L35, k35, n35⟩, -, X35, ⟨Lc35, hQ35, l35, y35, z35⟩, st35⟩ := X31.virtualBack hx (y := (⟨"com/example/bytewright/bytewright/grid/ObjectStarts", "indexOf", "(II)I"⟩ : MethodName)) (z := (⟨"com/example/bytewright/bytewright/grid/ObjectStarts", "indexOf", "(II)I"⟩ : MethodName)) hown (mvT hZ (hw _ (List.mem_of_getElem? (i := 25) rfl))) (mvT hZ (hw _ (List.mem_of_getElem? (i := 26) rfl))) (notFace_of_selects (args := #[]) (mvT hZ (hw _ (List.mem_of_getElem? (i := 28) rfl)))) (mvT hZ (hw _ (List.mem_of_getElem? (i := 28) rfl))) (mvT hZ (hw _ (List.mem_of_getElem? (i := 27) rfl))) (by decide) (backOf (W := 0) (rm5c0 l Z a0 hw [] b20 vt (vt - vc) ab22 kb22 (0 : Int32) (0 : Int32) (0 : Int32) (0 : Int32) vc T24.heap n0 (Nat.le_trans Z0 K24.1) Fo24 Fn24 ((A20.keep Kc22).keep Kc24) Va24 hne22 (own_key vt vc (by have := own_next vc vt h_vt (by omega); omega)).1 (own_key vt vc (by have := own_next vc vt h_vt (by omega); omega)).2.1 (own_key vt vc (by have := own_next vc vt h_vt (by omega); omega)).2.2) hZ (hw _ (List.mem_of_getElem? (i := 29) rfl)) (hw _ (List.mem_of_getElem? (i := 3) rfl)) (by decide) (by decide)) q35a q35c (g := (mkF m 360 #[iv p0, iv p1, iv p2, iv p3, iv p4, iv p5, iv va, iv vb, iv vc, iv (0 : Int32), iv (p4 &&& (7 : Int32)), iv off, rv b20, iv (0 : Int32), iv (0 : Int32), iv (0 : Int32), iv (0 : Int32), iv vt, .unset] [(.int (vt - vc)), (.int vt), (.ref b20)])) rfl (by rw [hml]; rfl) (Steps.refl _) (argsL := [(.int vt), (.int (vt - vc))]) (rest := []) (lenOf pd7 rfl) rfl (by show 2 * 0 + _ ≤ _; exact Nat.le_of_eq rfl) (hb hby at_360) (fun _ _ => ⟨rfl, hh31, (by decide : 2 + 0 ≤ _), (by decide : 18 + 0 ≤ _)⟩)
      dsimp only [Pt.U, Pt.locs, Pt.cells, Pt.slots] at X35 l35 y35 z35 st35 hQ35
      subst l35 y35 z35
      obtain ⟨rfl, N35q, hh35⟩ := hQ35
      have N35 := Fr.app N31 N35q
      have pre37 : ∀ t, Steps p.tables e below (T35.setTop (mkF m 373 #[iv p0, iv p1, iv p2, iv p3, iv p4, iv p5, iv va, iv vb, iv vc, iv (0 : Int32), iv (p4 &&& (7 : Int32)), iv off, rv b20, iv (0 : Int32), iv (0 : Int32), iv (0 : Int32), iv (0 : Int32), iv vt, .unset] [(.int (-1 : Int32)), (.int (own_ix0 vc (0 : Int32) (0 : Int32) (0 : Int32) (0 : Int32)))])) t → Steps p.tables e below (s₁.setTop (entryFrame m #[(.int p0), (.int p1), (.int p2), (.int p3), (.int p4), (.int p5)] maxLocals)) t := by
        intro t kt
        refine pre34 _ ?_
        show Steps p.tables e below (T31.setTop (mkF m 360 #[iv p0, iv p1, iv p2, iv p3, iv p4, iv p5, iv va, iv vb, iv vc, iv (0 : Int32), iv (p4 &&& (7 : Int32)), iv off, rv b20, iv (0 : Int32), iv (0 : Int32), iv (0 : Int32), iv (0 : Int32), iv vt, .unset] [(.int (vt - vc)), (.int vt), (.ref b20)])) _
        refine st35.trans ?_
        show Steps p.tables e below (T35.setTop (mkF m 363 #[iv p0, iv p1, iv p2, iv p3, iv p4, iv p5, iv va, iv vb, iv vc, iv (0 : Int32), iv (p4 &&& (7 : Int32)), iv off, rv b20, iv (0 : Int32), iv (0 : Int32), iv (0 : Int32), iv (0 : Int32), iv vt, .unset] [(.int (own_ix0 vc (0 : Int32) (0 : Int32) (0 : Int32) (0 : Int32)))])) _
        refine XS.iload X35.here hx rfl (hb hby at_363) rfl ?_
        refine XS.ifYes X35.here hx rfl (pc0 := 365) (pc' := 372) rfl (hb hby at_365) rfl ((if0 _ _).trans (teq (by decide)).1) (by decide) (by decide) ?_
        refine XS.iconst X35.here hx rfl (hb hby at_372) ?_
        exact kt
      have hc373_36 : (own_ix0 vc (0 : Int32) (0 : Int32) (0 : Int32) (0 : Int32)) = (-1 : Int32) := by simp +decide [own_ix0, own_bs0, hab, hbc, hac, nba, ncb, nca, Int32.lt_irrefl]
      have pre38 : ∀ t, Steps p.tables e below (T35.setTop (mkF m 392 #[iv p0, iv p1, iv p2, iv p3, iv p4, iv p5, iv va, iv vb, iv vc, iv (0 : Int32), iv (p4 &&& (7 : Int32)), iv off, rv b20, iv (0 : Int32), iv (0 : Int32), iv (0 : Int32), iv (0 : Int32), iv vt, iv (1 : Int32)] [(.int vt), (.ref b20)])) t → Steps p.tables e below (s₁.setTop (entryFrame m #[(.int p0), (.int p1), (.int p2), (.int p3), (.int p4), (.int p5)] maxLocals)) t := by
        intro t kt
        refine pre37 _ ?_
        show Steps p.tables e below (T35.setTop (mkF m 373 #[iv p0, iv p1, iv p2, iv p3, iv p4, iv p5, iv va, iv vb, iv vc, iv (0 : Int32), iv (p4 &&& (7 : Int32)), iv off, rv b20, iv (0 : Int32), iv (0 : Int32), iv (0 : Int32), iv (0 : Int32), iv vt, .unset] [(.int (-1 : Int32)), (.int (own_ix0 vc (0 : Int32) (0 : Int32) (0 : Int32) (0 : Int32)))])) _
        refine XS.icmpNo X35.here hx rfl (hb hby at_373) rfl (teq hc373_36).2 ?_
        refine XS.iconst X35.here hx rfl (hb hby at_376) ?_
        refine XS.goto X35.here hx rfl (pc0 := 377) (pc' := 381) rfl (hb hby at_377) (by decide) (by decide) ?_
        refine XS.istore X35.here hx rfl (hb hby at_381) rfl (l' := #[iv p0, iv p1, iv p2, iv p3, iv p4, iv p5, iv va, iv vb, iv vc, iv (0 : Int32), iv (p4 &&& (7 : Int32)), iv off, rv b20, iv (0 : Int32), iv (0 : Int32), iv (0 : Int32), iv (0 : Int32), iv vt, iv (1 : Int32)]) rfl ?_
        refine XS.iload X35.here hx rfl (hb hby at_383) rfl ?_
        refine XS.ifNo X35.here hx rfl (hb hby at_385) rfl ((if0 _ _).trans (feq (by decide)).1) ?_
        refine XS.aload X35.here hx rfl (hb hby at_388) rfl rfl ?_
        refine XS.iload X35.here hx rfl (hb hby at_390) rfl ?_
        exact kt
      obtain ⟨cq39, kq39, q39a, q39b, q39c⟩ := isOf hZ hh35 ((A20.keep Kc22).keep Kc24)
      obtain ⟨_, _, ⟨T39, L39, k39, n39⟩, -, X39, ⟨Lc39, hQ39, l39, y39, z39⟩, st39⟩ := X35.virtualBack hx (y := (⟨"com/example/bytewright/bytewright/grid/ObjectStarts", "add", "(I)I"⟩ : MethodName)) (z := (⟨"com/example/bytewright/bytewright/grid/ObjectStarts", "add", "(I)I"⟩ : MethodName)) hown (mvT hZ (hw _ (List.mem_of_getElem? (i := 13) rfl))) (mvT hZ (hw _ (List.mem_of_getElem? (i := 14) rfl))) (notFace_of_selects (args := #[]) (mvT hZ (hw _ (List.mem_of_getElem? (i := 16) rfl)))) (mvT hZ (hw _ (List.mem_of_getElem? (i := 16) rfl))) (mvT hZ (hw _ (List.mem_of_getElem? (i := 15) rfl))) (by decide) (backOf (W := 0) (rm3c0 l Z a0 hw [] b20 vt ab22 kb22 (0 : Int32) (0 : Int32) (0 : Int32) (0 : Int32) T24.heap n0 (Nat.le_trans Z0 K24.1) Fo24 Fn24 ((A20.keep Kc22).keep Kc24) g_b20 Va24 g_ab22 hne22) hZ (hw _ (List.mem_of_getElem? (i := 17) rfl)) (hw _ (List.mem_of_getElem? (i := 3) rfl)) (by decide) (by decide)) q39a q39c (g := (mkF m 392 #[iv p0, iv p1, iv p2, iv p3, iv p4, iv p5, iv va, iv vb, iv vc, iv (0 : Int32), iv (p4 &&& (7 : Int32)), iv off, rv b20, iv (0 : Int32), iv (0 : Int32), iv (0 : Int32), iv (0 : Int32), iv vt, iv (1 : Int32)] [(.int vt), (.ref b20)])) rfl (by rw [hml]; rfl) (Steps.refl _) (argsL := [(.int vt)]) (rest := []) (lenOf pd8 rfl) rfl (by show 2 * 0 + _ ≤ _; exact Nat.le_of_eq rfl) (hb hby at_392) (fun _ _ => ⟨rfl, hh35, (by decide : 2 + 0 ≤ _), (by decide : 18 + 0 ≤ _)⟩)
      dsimp only [Pt.U, Pt.locs, Pt.cells, Pt.slots] at X39 l39 y39 z39 st39 hQ39
      subst l39 y39 z39
      obtain ⟨rfl, N39q, Kc39, Fo39, Fn39, Va39⟩ := hQ39
      have N39 := Fr.app N35 N39q
      have K39 : Keep h0 T39.heap [] := K24.trans Kc39 (allS (Or.inr sz_b20) (allS (Or.inr sz_ab22) all0))
      have pre40 : ∀ t, Steps p.tables e below (T39.setTop (mkF m 405 #[iv p0, iv p1, iv p2, iv p3, iv p4, iv p5, iv va, iv vb, iv vc, iv (0 : Int32), iv (p4 &&& (7 : Int32)), iv off, rv b20, iv (0 : Int32), iv (0 : Int32), iv (0 : Int32), iv (0 : Int32), iv vt, iv (1 : Int32)] [(.int (1 : Int32))])) t → Steps p.tables e below (s₁.setTop (entryFrame m #[(.int p0), (.int p1), (.int p2), (.int p3), (.int p4), (.int p5)] maxLocals)) t := by
        intro t kt
        refine pre38 _ ?_
        show Steps p.tables e below (T35.setTop (mkF m 392 #[iv p0, iv p1, iv p2, iv p3, iv p4, iv p5, iv va, iv vb, iv vc, iv (0 : Int32), iv (p4 &&& (7 : Int32)), iv off, rv b20, iv (0 : Int32), iv (0 : Int32), iv (0 : Int32), iv (0 : Int32), iv vt, iv (1 : Int32)] [(.int vt), (.ref b20)])) _
        refine st39.trans ?_
        show Steps p.tables e below (T39.setTop (mkF m 395 #[iv p0, iv p1, iv p2, iv p3, iv p4, iv p5, iv va, iv vb, iv vc, iv (0 : Int32), iv (p4 &&& (7 : Int32)), iv off, rv b20, iv (0 : Int32), iv (0 : Int32), iv (0 : Int32), iv (0 : Int32), iv vt, iv (1 : Int32)] [(.int (0 : Int32))])) _
        refine XS.iload X39.here hx rfl (hb hby at_395) rfl ?_
        refine XS.icmpNo X39.here hx rfl (hb hby at_397) rfl (teq (by decide)).2 ?_
        refine XS.iconst X39.here hx rfl (hb hby at_400) ?_
        refine XS.goto X39.here hx rfl (pc0 := 401) (pc' := 405) rfl (hb hby at_401) (by decide) (by decide) ?_
        exact kt
      obtain ⟨fs, hr, hrun, hended, hW, hsame⟩ := X39.leave (v := some (.int (1 : Int32))) (fun h => by rw [Bd.returns] at h; cases h)
      refine ⟨_, _, pre40 _ ?_, hrun, hended, _, _, rfl, ?_, ⟨_, rfl⟩, hW, hsame.mono (by decide) (by decide)⟩
      · show Steps p.tables e below (T39.setTop (mkF m 405 #[iv p0, iv p1, iv p2, iv p3, iv p4, iv p5, iv va, iv vb, iv vc, iv (0 : Int32), iv (p4 &&& (7 : Int32)), iv off, rv b20, iv (0 : Int32), iv (0 : Int32), iv (0 : Int32), iv (0 : Int32), iv vt, iv (1 : Int32)] [(.int (1 : Int32))])) _
        exact retN X39 hx (t := .boolean) Bd.returns (by simp) (hb hby at_405) hr
      · show Q0 Z p0 p1 p2 p3 p4 p5 h0 n0 _ T39.heap _
        exact ⟨rfl, N39⟩
  · have pre41 : ∀ t, Steps p.tables e below (s₁.setTop (mkF m 41 #[iv p0, iv p1, iv p2, iv p3, iv p4, iv p5, iv va, iv vb, iv vc, iv (1 : Int32), iv (p4 &&& (7 : Int32)), .unset, .unset, .unset, .unset, .unset, .unset, .unset, .unset] [])) t → Steps p.tables e below (s₁.setTop (entryFrame m #[(.int p0), (.int p1), (.int p2), (.int p3), (.int p4), (.int p5)] maxLocals)) t := by
      intro t kt
      refine pre1 _ ?_
      show Steps p.tables e below (s₁.setTop (mkF m 34 #[iv p0, iv p1, iv p2, iv p3, iv p4, iv p5, iv va, iv vb, iv vc, iv (p5 &&& (3 : Int32)), .unset, .unset, .unset, .unset, .unset, .unset, .unset, .unset, .unset] [])) _
      rw [h4]
      show Steps p.tables e below (s₁.setTop (mkF m 34 #[iv p0, iv p1, iv p2, iv p3, iv p4, iv p5, iv va, iv vb, iv vc, iv (1 : Int32), .unset, .unset, .unset, .unset, .unset, .unset, .unset, .unset, .unset] [])) _
      refine XS.iload X0.here hx rfl (hb hby at_34) rfl ?_
      refine XS.bipush X0.here hx rfl (hb hby at_36) ?_
      refine XS.iand X0.here hx rfl (hb hby at_38) rfl ?_
      refine XS.istore X0.here hx rfl (hb hby at_39) rfl (l' := #[iv p0, iv p1, iv p2, iv p3, iv p4, iv p5, iv va, iv vb, iv vc, iv (1 : Int32), iv (p4 &&& (7 : Int32)), .unset, .unset, .unset, .unset, .unset, .unset, .unset, .unset]) rfl ?_
      exact kt
    obtain ⟨off, hj58, pre58⟩ : ∃ (off : Int32), (True) ∧ ∀ t, Steps p.tables e below (s₁.setTop (mkF m 143 #[iv p0, iv p1, iv p2, iv p3, iv p4, iv p5, iv va, iv vb, iv vc, iv (1 : Int32), iv (p4 &&& (7 : Int32)), iv off, .unset, .unset, .unset, .unset, .unset, .unset, .unset] [])) t → Steps p.tables e below (s₁.setTop (entryFrame m #[(.int p0), (.int p1), (.int p2), (.int p3), (.int p4), (.int p5)] maxLocals)) t := by
      have pre42 : ∀ t, Steps p.tables e below (s₁.setTop (mkF m 43 #[iv p0, iv p1, iv p2, iv p3, iv p4, iv p5, iv va, iv vb, iv vc, iv (1 : Int32), iv (p4 &&& (7 : Int32)), .unset, .unset, .unset, .unset, .unset, .unset, .unset, .unset] [(.int (p4 &&& (7 : Int32)))])) t → Steps p.tables e below (s₁.setTop (entryFrame m #[(.int p0), (.int p1), (.int p2), (.int p3), (.int p4), (.int p5)] maxLocals)) t := by
        intro t kt
        refine pre41 _ ?_
        show Steps p.tables e below (s₁.setTop (mkF m 41 #[iv p0, iv p1, iv p2, iv p3, iv p4, iv p5, iv va, iv vb, iv vc, iv (1 : Int32), iv (p4 &&& (7 : Int32)), .unset, .unset, .unset, .unset, .unset, .unset, .unset, .unset] [])) _
        refine XS.iload X0.here hx rfl (hb hby at_41) rfl ?_
        exact kt
      by_cases hc43 : (p4 &&& (7 : Int32)) = (0 : Int32)
      · have pre43 : ∀ t, Steps p.tables e below (s₁.setTop (mkF m 143 #[iv p0, iv p1, iv p2, iv p3, iv p4, iv p5, iv va, iv vb, iv vc, iv (1 : Int32), iv (p4 &&& (7 : Int32)), iv p3, .unset, .unset, .unset, .unset, .unset, .unset, .unset] [])) t → Steps p.tables e below (s₁.setTop (entryFrame m #[(.int p0), (.int p1), (.int p2), (.int p3), (.int p4), (.int p5)] maxLocals)) t := by
          intro t kt
          refine pre42 _ ?_
          show Steps p.tables e below (s₁.setTop (mkF m 43 #[iv p0, iv p1, iv p2, iv p3, iv p4, iv p5, iv va, iv vb, iv vc, iv (1 : Int32), iv (p4 &&& (7 : Int32)), .unset, .unset, .unset, .unset, .unset, .unset, .unset, .unset] [(.int (p4 &&& (7 : Int32)))])) _
          refine XS.ifNo X0.here hx rfl (hb hby at_43) rfl ((if0 _ _).trans (teq hc43).2) ?_
          refine XS.iloadN X0.here hx rfl (hb hby at_46) rfl ?_
          refine XS.istore X0.here hx rfl (hb hby at_47) rfl (l' := #[iv p0, iv p1, iv p2, iv p3, iv p4, iv p5, iv va, iv vb, iv vc, iv (1 : Int32), iv (p4 &&& (7 : Int32)), iv p3, .unset, .unset, .unset, .unset, .unset, .unset, .unset]) rfl ?_
          refine XS.goto X0.here hx rfl (pc0 := 49) (pc' := 143) rfl (hb hby at_49) (by decide) (by decide) ?_
          exact kt
        exact ⟨p3, trivial, pre43⟩
      · have pre44 : ∀ t, Steps p.tables e below (s₁.setTop (mkF m 55 #[iv p0, iv p1, iv p2, iv p3, iv p4, iv p5, iv va, iv vb, iv vc, iv (1 : Int32), iv (p4 &&& (7 : Int32)), .unset, .unset, .unset, .unset, .unset, .unset, .unset, .unset] [(.int (1 : Int32)), (.int (p4 &&& (7 : Int32)))])) t → Steps p.tables e below (s₁.setTop (entryFrame m #[(.int p0), (.int p1), (.int p2), (.int p3), (.int p4), (.int p5)] maxLocals)) t := by
          intro t kt
          refine pre42 _ ?_
          show Steps p.tables e below (s₁.setTop (mkF m 43 #[iv p0, iv p1, iv p2, iv p3, iv p4, iv p5, iv va, iv vb, iv vc, iv (1 : Int32), iv (p4 &&& (7 : Int32)), .unset, .unset, .unset, .unset, .unset, .unset, .unset, .unset] [(.int (p4 &&& (7 : Int32)))])) _
          refine XS.ifYes X0.here hx rfl (pc0 := 43) (pc' := 52) rfl (hb hby at_43) rfl ((if0 _ _).trans (feq hc43).2) (by decide) (by decide) ?_
          refine XS.iload X0.here hx rfl (hb hby at_52) rfl ?_
          refine XS.iconst X0.here hx rfl (hb hby at_54) ?_
          exact kt
        by_cases hc55 : (p4 &&& (7 : Int32)) = (1 : Int32)
        · have pre45 : ∀ t, Steps p.tables e below (s₁.setTop (mkF m 143 #[iv p0, iv p1, iv p2, iv p3, iv p4, iv p5, iv va, iv vb, iv vc, iv (1 : Int32), iv (p4 &&& (7 : Int32)), iv va, .unset, .unset, .unset, .unset, .unset, .unset, .unset] [])) t → Steps p.tables e below (s₁.setTop (entryFrame m #[(.int p0), (.int p1), (.int p2), (.int p3), (.int p4), (.int p5)] maxLocals)) t := by
            intro t kt
            refine pre44 _ ?_
            show Steps p.tables e below (s₁.setTop (mkF m 55 #[iv p0, iv p1, iv p2, iv p3, iv p4, iv p5, iv va, iv vb, iv vc, iv (1 : Int32), iv (p4 &&& (7 : Int32)), .unset, .unset, .unset, .unset, .unset, .unset, .unset, .unset] [(.int (1 : Int32)), (.int (p4 &&& (7 : Int32)))])) _
            refine XS.icmpNo X0.here hx rfl (hb hby at_55) rfl (teq hc55).2 ?_
            refine XS.iload X0.here hx rfl (hb hby at_58) rfl ?_
            refine XS.istore X0.here hx rfl (hb hby at_60) rfl (l' := #[iv p0, iv p1, iv p2, iv p3, iv p4, iv p5, iv va, iv vb, iv vc, iv (1 : Int32), iv (p4 &&& (7 : Int32)), iv va, .unset, .unset, .unset, .unset, .unset, .unset, .unset]) rfl ?_
            refine XS.goto X0.here hx rfl (pc0 := 62) (pc' := 143) rfl (hb hby at_62) (by decide) (by decide) ?_
            exact kt
          exact ⟨va, trivial, pre45⟩
        · have pre46 : ∀ t, Steps p.tables e below (s₁.setTop (mkF m 68 #[iv p0, iv p1, iv p2, iv p3, iv p4, iv p5, iv va, iv vb, iv vc, iv (1 : Int32), iv (p4 &&& (7 : Int32)), .unset, .unset, .unset, .unset, .unset, .unset, .unset, .unset] [(.int (2 : Int32)), (.int (p4 &&& (7 : Int32)))])) t → Steps p.tables e below (s₁.setTop (entryFrame m #[(.int p0), (.int p1), (.int p2), (.int p3), (.int p4), (.int p5)] maxLocals)) t := by
            intro t kt
            refine pre44 _ ?_
            show Steps p.tables e below (s₁.setTop (mkF m 55 #[iv p0, iv p1, iv p2, iv p3, iv p4, iv p5, iv va, iv vb, iv vc, iv (1 : Int32), iv (p4 &&& (7 : Int32)), .unset, .unset, .unset, .unset, .unset, .unset, .unset, .unset] [(.int (1 : Int32)), (.int (p4 &&& (7 : Int32)))])) _
            refine XS.icmpYes X0.here hx rfl (pc0 := 55) (pc' := 65) rfl (hb hby at_55) rfl (feq hc55).2 (by decide) (by decide) ?_
            refine XS.iload X0.here hx rfl (hb hby at_65) rfl ?_
            refine XS.iconst X0.here hx rfl (hb hby at_67) ?_
            exact kt
          by_cases hc68 : (p4 &&& (7 : Int32)) = (2 : Int32)
          · have pre47 : ∀ t, Steps p.tables e below (s₁.setTop (mkF m 143 #[iv p0, iv p1, iv p2, iv p3, iv p4, iv p5, iv va, iv vb, iv vc, iv (1 : Int32), iv (p4 &&& (7 : Int32)), iv (va + (1 : Int32)), .unset, .unset, .unset, .unset, .unset, .unset, .unset] [])) t → Steps p.tables e below (s₁.setTop (entryFrame m #[(.int p0), (.int p1), (.int p2), (.int p3), (.int p4), (.int p5)] maxLocals)) t := by
              intro t kt
              refine pre46 _ ?_
              show Steps p.tables e below (s₁.setTop (mkF m 68 #[iv p0, iv p1, iv p2, iv p3, iv p4, iv p5, iv va, iv vb, iv vc, iv (1 : Int32), iv (p4 &&& (7 : Int32)), .unset, .unset, .unset, .unset, .unset, .unset, .unset, .unset] [(.int (2 : Int32)), (.int (p4 &&& (7 : Int32)))])) _
              refine XS.icmpNo X0.here hx rfl (hb hby at_68) rfl (teq hc68).2 ?_
              refine XS.iload X0.here hx rfl (hb hby at_71) rfl ?_
              refine XS.iconst X0.here hx rfl (hb hby at_73) ?_
              refine XS.iadd X0.here hx rfl (hb hby at_74) rfl ?_
              refine XS.istore X0.here hx rfl (hb hby at_75) rfl (l' := #[iv p0, iv p1, iv p2, iv p3, iv p4, iv p5, iv va, iv vb, iv vc, iv (1 : Int32), iv (p4 &&& (7 : Int32)), iv (va + (1 : Int32)), .unset, .unset, .unset, .unset, .unset, .unset, .unset]) rfl ?_
              refine XS.goto X0.here hx rfl (pc0 := 77) (pc' := 143) rfl (hb hby at_77) (by decide) (by decide) ?_
              exact kt
            exact ⟨(va + (1 : Int32)), trivial, pre47⟩
          · have pre48 : ∀ t, Steps p.tables e below (s₁.setTop (mkF m 83 #[iv p0, iv p1, iv p2, iv p3, iv p4, iv p5, iv va, iv vb, iv vc, iv (1 : Int32), iv (p4 &&& (7 : Int32)), .unset, .unset, .unset, .unset, .unset, .unset, .unset, .unset] [(.int (3 : Int32)), (.int (p4 &&& (7 : Int32)))])) t → Steps p.tables e below (s₁.setTop (entryFrame m #[(.int p0), (.int p1), (.int p2), (.int p3), (.int p4), (.int p5)] maxLocals)) t := by
              intro t kt
              refine pre46 _ ?_
              show Steps p.tables e below (s₁.setTop (mkF m 68 #[iv p0, iv p1, iv p2, iv p3, iv p4, iv p5, iv va, iv vb, iv vc, iv (1 : Int32), iv (p4 &&& (7 : Int32)), .unset, .unset, .unset, .unset, .unset, .unset, .unset, .unset] [(.int (2 : Int32)), (.int (p4 &&& (7 : Int32)))])) _
              refine XS.icmpYes X0.here hx rfl (pc0 := 68) (pc' := 80) rfl (hb hby at_68) rfl (feq hc68).2 (by decide) (by decide) ?_
              refine XS.iload X0.here hx rfl (hb hby at_80) rfl ?_
              refine XS.iconst X0.here hx rfl (hb hby at_82) ?_
              exact kt
            by_cases hc83 : (p4 &&& (7 : Int32)) = (3 : Int32)
            · have pre49 : ∀ t, Steps p.tables e below (s₁.setTop (mkF m 143 #[iv p0, iv p1, iv p2, iv p3, iv p4, iv p5, iv va, iv vb, iv vc, iv (1 : Int32), iv (p4 &&& (7 : Int32)), iv vb, .unset, .unset, .unset, .unset, .unset, .unset, .unset] [])) t → Steps p.tables e below (s₁.setTop (entryFrame m #[(.int p0), (.int p1), (.int p2), (.int p3), (.int p4), (.int p5)] maxLocals)) t := by
                intro t kt
                refine pre48 _ ?_
                show Steps p.tables e below (s₁.setTop (mkF m 83 #[iv p0, iv p1, iv p2, iv p3, iv p4, iv p5, iv va, iv vb, iv vc, iv (1 : Int32), iv (p4 &&& (7 : Int32)), .unset, .unset, .unset, .unset, .unset, .unset, .unset, .unset] [(.int (3 : Int32)), (.int (p4 &&& (7 : Int32)))])) _
                refine XS.icmpNo X0.here hx rfl (hb hby at_83) rfl (teq hc83).2 ?_
                refine XS.iload X0.here hx rfl (hb hby at_86) rfl ?_
                refine XS.istore X0.here hx rfl (hb hby at_88) rfl (l' := #[iv p0, iv p1, iv p2, iv p3, iv p4, iv p5, iv va, iv vb, iv vc, iv (1 : Int32), iv (p4 &&& (7 : Int32)), iv vb, .unset, .unset, .unset, .unset, .unset, .unset, .unset]) rfl ?_
                refine XS.goto X0.here hx rfl (pc0 := 90) (pc' := 143) rfl (hb hby at_90) (by decide) (by decide) ?_
                exact kt
              exact ⟨vb, trivial, pre49⟩
            · have pre50 : ∀ t, Steps p.tables e below (s₁.setTop (mkF m 96 #[iv p0, iv p1, iv p2, iv p3, iv p4, iv p5, iv va, iv vb, iv vc, iv (1 : Int32), iv (p4 &&& (7 : Int32)), .unset, .unset, .unset, .unset, .unset, .unset, .unset, .unset] [(.int (4 : Int32)), (.int (p4 &&& (7 : Int32)))])) t → Steps p.tables e below (s₁.setTop (entryFrame m #[(.int p0), (.int p1), (.int p2), (.int p3), (.int p4), (.int p5)] maxLocals)) t := by
                intro t kt
                refine pre48 _ ?_
                show Steps p.tables e below (s₁.setTop (mkF m 83 #[iv p0, iv p1, iv p2, iv p3, iv p4, iv p5, iv va, iv vb, iv vc, iv (1 : Int32), iv (p4 &&& (7 : Int32)), .unset, .unset, .unset, .unset, .unset, .unset, .unset, .unset] [(.int (3 : Int32)), (.int (p4 &&& (7 : Int32)))])) _
                refine XS.icmpYes X0.here hx rfl (pc0 := 83) (pc' := 93) rfl (hb hby at_83) rfl (feq hc83).2 (by decide) (by decide) ?_
                refine XS.iload X0.here hx rfl (hb hby at_93) rfl ?_
                refine XS.iconst X0.here hx rfl (hb hby at_95) ?_
                exact kt
              by_cases hc96 : (p4 &&& (7 : Int32)) = (4 : Int32)
              · have pre51 : ∀ t, Steps p.tables e below (s₁.setTop (mkF m 143 #[iv p0, iv p1, iv p2, iv p3, iv p4, iv p5, iv va, iv vb, iv vc, iv (1 : Int32), iv (p4 &&& (7 : Int32)), iv (vb + (1 : Int32)), .unset, .unset, .unset, .unset, .unset, .unset, .unset] [])) t → Steps p.tables e below (s₁.setTop (entryFrame m #[(.int p0), (.int p1), (.int p2), (.int p3), (.int p4), (.int p5)] maxLocals)) t := by
                  intro t kt
                  refine pre50 _ ?_
                  show Steps p.tables e below (s₁.setTop (mkF m 96 #[iv p0, iv p1, iv p2, iv p3, iv p4, iv p5, iv va, iv vb, iv vc, iv (1 : Int32), iv (p4 &&& (7 : Int32)), .unset, .unset, .unset, .unset, .unset, .unset, .unset, .unset] [(.int (4 : Int32)), (.int (p4 &&& (7 : Int32)))])) _
                  refine XS.icmpNo X0.here hx rfl (hb hby at_96) rfl (teq hc96).2 ?_
                  refine XS.iload X0.here hx rfl (hb hby at_99) rfl ?_
                  refine XS.iconst X0.here hx rfl (hb hby at_101) ?_
                  refine XS.iadd X0.here hx rfl (hb hby at_102) rfl ?_
                  refine XS.istore X0.here hx rfl (hb hby at_103) rfl (l' := #[iv p0, iv p1, iv p2, iv p3, iv p4, iv p5, iv va, iv vb, iv vc, iv (1 : Int32), iv (p4 &&& (7 : Int32)), iv (vb + (1 : Int32)), .unset, .unset, .unset, .unset, .unset, .unset, .unset]) rfl ?_
                  refine XS.goto X0.here hx rfl (pc0 := 105) (pc' := 143) rfl (hb hby at_105) (by decide) (by decide) ?_
                  exact kt
                exact ⟨(vb + (1 : Int32)), trivial, pre51⟩
              · have pre52 : ∀ t, Steps p.tables e below (s₁.setTop (mkF m 111 #[iv p0, iv p1, iv p2, iv p3, iv p4, iv p5, iv va, iv vb, iv vc, iv (1 : Int32), iv (p4 &&& (7 : Int32)), .unset, .unset, .unset, .unset, .unset, .unset, .unset, .unset] [(.int (5 : Int32)), (.int (p4 &&& (7 : Int32)))])) t → Steps p.tables e below (s₁.setTop (entryFrame m #[(.int p0), (.int p1), (.int p2), (.int p3), (.int p4), (.int p5)] maxLocals)) t := by
                  intro t kt
                  refine pre50 _ ?_
                  show Steps p.tables e below (s₁.setTop (mkF m 96 #[iv p0, iv p1, iv p2, iv p3, iv p4, iv p5, iv va, iv vb, iv vc, iv (1 : Int32), iv (p4 &&& (7 : Int32)), .unset, .unset, .unset, .unset, .unset, .unset, .unset, .unset] [(.int (4 : Int32)), (.int (p4 &&& (7 : Int32)))])) _
                  refine XS.icmpYes X0.here hx rfl (pc0 := 96) (pc' := 108) rfl (hb hby at_96) rfl (feq hc96).2 (by decide) (by decide) ?_
                  refine XS.iload X0.here hx rfl (hb hby at_108) rfl ?_
                  refine XS.iconst X0.here hx rfl (hb hby at_110) ?_
                  exact kt
                by_cases hc111 : (p4 &&& (7 : Int32)) = (5 : Int32)
                · have pre53 : ∀ t, Steps p.tables e below (s₁.setTop (mkF m 143 #[iv p0, iv p1, iv p2, iv p3, iv p4, iv p5, iv va, iv vb, iv vc, iv (1 : Int32), iv (p4 &&& (7 : Int32)), iv vc, .unset, .unset, .unset, .unset, .unset, .unset, .unset] [])) t → Steps p.tables e below (s₁.setTop (entryFrame m #[(.int p0), (.int p1), (.int p2), (.int p3), (.int p4), (.int p5)] maxLocals)) t := by
                    intro t kt
                    refine pre52 _ ?_
                    show Steps p.tables e below (s₁.setTop (mkF m 111 #[iv p0, iv p1, iv p2, iv p3, iv p4, iv p5, iv va, iv vb, iv vc, iv (1 : Int32), iv (p4 &&& (7 : Int32)), .unset, .unset, .unset, .unset, .unset, .unset, .unset, .unset] [(.int (5 : Int32)), (.int (p4 &&& (7 : Int32)))])) _
                    refine XS.icmpNo X0.here hx rfl (hb hby at_111) rfl (teq hc111).2 ?_
                    refine XS.iload X0.here hx rfl (hb hby at_114) rfl ?_
                    refine XS.istore X0.here hx rfl (hb hby at_116) rfl (l' := #[iv p0, iv p1, iv p2, iv p3, iv p4, iv p5, iv va, iv vb, iv vc, iv (1 : Int32), iv (p4 &&& (7 : Int32)), iv vc, .unset, .unset, .unset, .unset, .unset, .unset, .unset]) rfl ?_
                    refine XS.goto X0.here hx rfl (pc0 := 118) (pc' := 143) rfl (hb hby at_118) (by decide) (by decide) ?_
                    exact kt
                  exact ⟨vc, trivial, pre53⟩
                · have pre54 : ∀ t, Steps p.tables e below (s₁.setTop (mkF m 125 #[iv p0, iv p1, iv p2, iv p3, iv p4, iv p5, iv va, iv vb, iv vc, iv (1 : Int32), iv (p4 &&& (7 : Int32)), .unset, .unset, .unset, .unset, .unset, .unset, .unset, .unset] [(.int (6 : Int32)), (.int (p4 &&& (7 : Int32)))])) t → Steps p.tables e below (s₁.setTop (entryFrame m #[(.int p0), (.int p1), (.int p2), (.int p3), (.int p4), (.int p5)] maxLocals)) t := by
                    intro t kt
                    refine pre52 _ ?_
                    show Steps p.tables e below (s₁.setTop (mkF m 111 #[iv p0, iv p1, iv p2, iv p3, iv p4, iv p5, iv va, iv vb, iv vc, iv (1 : Int32), iv (p4 &&& (7 : Int32)), .unset, .unset, .unset, .unset, .unset, .unset, .unset, .unset] [(.int (5 : Int32)), (.int (p4 &&& (7 : Int32)))])) _
                    refine XS.icmpYes X0.here hx rfl (pc0 := 111) (pc' := 121) rfl (hb hby at_111) rfl (feq hc111).2 (by decide) (by decide) ?_
                    refine XS.iload X0.here hx rfl (hb hby at_121) rfl ?_
                    refine XS.bipush X0.here hx rfl (hb hby at_123) ?_
                    exact kt
                  by_cases hc125 : (p4 &&& (7 : Int32)) = (6 : Int32)
                  · have pre55 : ∀ t, Steps p.tables e below (s₁.setTop (mkF m 143 #[iv p0, iv p1, iv p2, iv p3, iv p4, iv p5, iv va, iv vb, iv vc, iv (1 : Int32), iv (p4 &&& (7 : Int32)), iv (vc + (1 : Int32)), .unset, .unset, .unset, .unset, .unset, .unset, .unset] [])) t → Steps p.tables e below (s₁.setTop (entryFrame m #[(.int p0), (.int p1), (.int p2), (.int p3), (.int p4), (.int p5)] maxLocals)) t := by
                      intro t kt
                      refine pre54 _ ?_
                      show Steps p.tables e below (s₁.setTop (mkF m 125 #[iv p0, iv p1, iv p2, iv p3, iv p4, iv p5, iv va, iv vb, iv vc, iv (1 : Int32), iv (p4 &&& (7 : Int32)), .unset, .unset, .unset, .unset, .unset, .unset, .unset, .unset] [(.int (6 : Int32)), (.int (p4 &&& (7 : Int32)))])) _
                      refine XS.icmpNo X0.here hx rfl (hb hby at_125) rfl (teq hc125).2 ?_
                      refine XS.iload X0.here hx rfl (hb hby at_128) rfl ?_
                      refine XS.iconst X0.here hx rfl (hb hby at_130) ?_
                      refine XS.iadd X0.here hx rfl (hb hby at_131) rfl ?_
                      refine XS.istore X0.here hx rfl (hb hby at_132) rfl (l' := #[iv p0, iv p1, iv p2, iv p3, iv p4, iv p5, iv va, iv vb, iv vc, iv (1 : Int32), iv (p4 &&& (7 : Int32)), iv (vc + (1 : Int32)), .unset, .unset, .unset, .unset, .unset, .unset, .unset]) rfl ?_
                      refine XS.goto X0.here hx rfl (pc0 := 134) (pc' := 143) rfl (hb hby at_134) (by decide) (by decide) ?_
                      exact kt
                    exact ⟨(vc + (1 : Int32)), trivial, pre55⟩
                  · have pre56 : ∀ t, Steps p.tables e below (s₁.setTop (mkF m 143 #[iv p0, iv p1, iv p2, iv p3, iv p4, iv p5, iv va, iv vb, iv vc, iv (1 : Int32), iv (p4 &&& (7 : Int32)), iv (vc - (1 : Int32)), .unset, .unset, .unset, .unset, .unset, .unset, .unset] [])) t → Steps p.tables e below (s₁.setTop (entryFrame m #[(.int p0), (.int p1), (.int p2), (.int p3), (.int p4), (.int p5)] maxLocals)) t := by
                      intro t kt
                      refine pre54 _ ?_
                      show Steps p.tables e below (s₁.setTop (mkF m 125 #[iv p0, iv p1, iv p2, iv p3, iv p4, iv p5, iv va, iv vb, iv vc, iv (1 : Int32), iv (p4 &&& (7 : Int32)), .unset, .unset, .unset, .unset, .unset, .unset, .unset, .unset] [(.int (6 : Int32)), (.int (p4 &&& (7 : Int32)))])) _
                      refine XS.icmpYes X0.here hx rfl (pc0 := 125) (pc' := 137) rfl (hb hby at_125) rfl (feq hc125).2 (by decide) (by decide) ?_
                      refine XS.iload X0.here hx rfl (hb hby at_137) rfl ?_
                      refine XS.iconst X0.here hx rfl (hb hby at_139) ?_
                      refine XS.isub X0.here hx rfl (hb hby at_140) rfl ?_
                      refine XS.istore X0.here hx rfl (hb hby at_141) rfl (l' := #[iv p0, iv p1, iv p2, iv p3, iv p4, iv p5, iv va, iv vb, iv vc, iv (1 : Int32), iv (p4 &&& (7 : Int32)), iv (vc - (1 : Int32)), .unset, .unset, .unset, .unset, .unset, .unset, .unset]) rfl ?_
                      exact kt
                    exact ⟨(vc - (1 : Int32)), trivial, pre56⟩
    obtain ⟨T59, h59, X59, e59, E59, A59, D59, -, st59⟩ := newO X0 hx hZ hown (hw _ (List.mem_of_getElem? (i := 1) rfl)) (hw _ (List.mem_of_getElem? (i := 2) rfl)) (hw _ (List.mem_of_getElem? (i := 3) rfl)) e0 (g := (mkF m 143 #[iv p0, iv p1, iv p2, iv p3, iv p4, iv p5, iv va, iv vb, iv vc, iv (1 : Int32), iv (p4 &&& (7 : Int32)), iv off, .unset, .unset, .unset, .unset, .unset, .unset, .unset] [])) rfl (hb hby at_143) (by decide) (by decide)
    obtain ⟨b59, g59⟩ : ∃ z, z = h0.size := ⟨_, rfl⟩
    rw [← g59] at A59 D59 st59
    have g_b59 : n0 ≤ b59 := Nat.le_trans (Nat.le_trans Z0 (Keep.refl h0 []).1) (Nat.le_of_eq g59.symm)
    have sz_b59 : h0.size ≤ b59 := Nat.le_trans (Keep.refl h0 []).1 (Nat.le_of_eq g59.symm)
    have F_offsets_b59 : Fld Z h59 b59 "com/example/bytewright/bytewright/grid/ObjectStarts" "offsets" "[I" .null := D59 (Or.inl (hw _ (List.mem_of_getElem? (i := 12) rfl))) (ty := (.array .int)) (by decide)
    have F_count_b59 : Fld Z h59 b59 "com/example/bytewright/bytewright/grid/ObjectStarts" "count" "I" (.int (0 : Int32)) := D59 (Or.inl (hw _ (List.mem_of_getElem? (i := 19) rfl))) (ty := .int) (by decide)
    have K59 : Keep h0 h59 [] := (Keep.refl h0 []).ext E59
    have pre60 : ∀ t, Steps p.tables e below (T59.setTop (mkF m 147 #[iv p0, iv p1, iv p2, iv p3, iv p4, iv p5, iv va, iv vb, iv vc, iv (1 : Int32), iv (p4 &&& (7 : Int32)), iv off, .unset, .unset, .unset, .unset, .unset, .unset, .unset] [(.ref b59), (.ref b59)])) t → Steps p.tables e below (s₁.setTop (entryFrame m #[(.int p0), (.int p1), (.int p2), (.int p3), (.int p4), (.int p5)] maxLocals)) t := by
      intro t kt
      refine pre58 _ ?_
      show Steps p.tables e below (s₁.setTop (mkF m 143 #[iv p0, iv p1, iv p2, iv p3, iv p4, iv p5, iv va, iv vb, iv vc, iv (1 : Int32), iv (p4 &&& (7 : Int32)), iv off, .unset, .unset, .unset, .unset, .unset, .unset, .unset] [])) _
      refine st59 _ ?_
      show Steps p.tables e below (T59.setTop (mkF m 146 #[iv p0, iv p1, iv p2, iv p3, iv p4, iv p5, iv va, iv vb, iv vc, iv (1 : Int32), iv (p4 &&& (7 : Int32)), iv off, .unset, .unset, .unset, .unset, .unset, .unset, .unset] [(.ref b59)])) _
      refine XS.dup X59.here hx rfl (hb hby at_146) rfl rfl ?_
      exact kt
    obtain ⟨_, _, ⟨T61, L61, k61, n61⟩, -, X61, ⟨Lc61, hQ61, l61, y61, z61⟩, st61⟩ := X59.specialBack hx (y := (⟨"com/example/bytewright/bytewright/grid/ObjectStarts", "<init>", "()V"⟩ : MethodName)) rfl hown (mvT hZ (hw _ (List.mem_of_getElem? (i := 4) rfl))) (mvT hZ (hw _ (List.mem_of_getElem? (i := 5) rfl))) (mvT hZ (hw _ (List.mem_of_getElem? (i := 6) rfl))) (by decide) (backOf (W := 1) (rm1 l Z a0 hw [] b59 h59 n0 (Nat.le_trans Z0 K59.1) F_offsets_b59 F_count_b59 A59 g_b59) hZ (hw _ (List.mem_of_getElem? (i := 6) rfl)) (hw _ (List.mem_of_getElem? (i := 3) rfl)) (by decide) (by decide)) (g := (mkF m 147 #[iv p0, iv p1, iv p2, iv p3, iv p4, iv p5, iv va, iv vb, iv vc, iv (1 : Int32), iv (p4 &&& (7 : Int32)), iv off, .unset, .unset, .unset, .unset, .unset, .unset, .unset] [(.ref b59), (.ref b59)])) rfl (by rw [hml]; rfl) (Steps.refl _) (a := b59) (argsL := []) (rest := [(.ref b59)]) (lenOf pd5 rfl) rfl (by show 2 * 0 + _ ≤ _; exact Nat.le_of_eq rfl) (hb hby at_147) (fun _ _ => ⟨rfl, e59, (by decide : 1 + 1 ≤ _), (by decide : 2 + 16 ≤ _)⟩)
    dsimp only [Pt.U, Pt.locs, Pt.cells, Pt.slots] at X61 l61 y61 z61 st61 hQ61
    subst l61 y61 z61
    obtain ⟨ab61, kb61, rfl, N61q, Kc61, hsz61, Fo61, Fn61, Va61⟩ := hQ61
    have N61 := Fr.app N0 N61q
    have K61 : Keep h0 T61.heap [] := K59.trans Kc61 (allS (Or.inr sz_b59) all0)
    have g_ab61 : n0 ≤ ab61 := Nat.le_trans (Nat.le_trans Z0 K59.1) hsz61
    have sz_ab61 : h0.size ≤ ab61 := Nat.le_trans K59.1 hsz61
    have hne61 : b59 ≠ ab61 := Nat.ne_of_lt (Nat.lt_of_lt_of_le A59.lt hsz61)
    have pre62 : ∀ t, Steps p.tables e below (T61.setTop (mkF m 162 #[iv p0, iv p1, iv p2, iv p3, iv p4, iv p5, iv va, iv vb, iv vc, iv (1 : Int32), iv (p4 &&& (7 : Int32)), iv off, rv b59, .unset, .unset, .unset, .unset, .unset, .unset] [(.int va), (.ref b59)])) t → Steps p.tables e below (s₁.setTop (entryFrame m #[(.int p0), (.int p1), (.int p2), (.int p3), (.int p4), (.int p5)] maxLocals)) t := by
      intro t kt
      refine pre60 _ ?_
      show Steps p.tables e below (T59.setTop (mkF m 147 #[iv p0, iv p1, iv p2, iv p3, iv p4, iv p5, iv va, iv vb, iv vc, iv (1 : Int32), iv (p4 &&& (7 : Int32)), iv off, .unset, .unset, .unset, .unset, .unset, .unset, .unset] [(.ref b59), (.ref b59)])) _
      refine st61.trans ?_
      show Steps p.tables e below (T61.setTop (mkF m 150 #[iv p0, iv p1, iv p2, iv p3, iv p4, iv p5, iv va, iv vb, iv vc, iv (1 : Int32), iv (p4 &&& (7 : Int32)), iv off, .unset, .unset, .unset, .unset, .unset, .unset, .unset] [(.ref b59)])) _
      refine XS.astore X61.here hx rfl (hb hby at_150) rfl rfl (l' := #[iv p0, iv p1, iv p2, iv p3, iv p4, iv p5, iv va, iv vb, iv vc, iv (1 : Int32), iv (p4 &&& (7 : Int32)), iv off, rv b59, .unset, .unset, .unset, .unset, .unset, .unset]) rfl ?_
      refine XS.iload X61.here hx rfl (hb hby at_152) rfl ?_
      refine XS.iconst X61.here hx rfl (hb hby at_154) ?_
      refine XS.icmpNo X61.here hx rfl (hb hby at_155) rfl (flt (by decide)).1 ?_
      refine XS.aload X61.here hx rfl (hb hby at_158) rfl rfl ?_
      refine XS.iload X61.here hx rfl (hb hby at_160) rfl ?_
      exact kt
    obtain ⟨cq63, kq63, q63a, q63b, q63c⟩ := isOf hZ rfl (A59.keep Kc61)
    obtain ⟨_, _, ⟨T63, L63, k63, n63⟩, -, X63, ⟨Lc63, hQ63, l63, y63, z63⟩, st63⟩ := X61.virtualBack hx (y := (⟨"com/example/bytewright/bytewright/grid/ObjectStarts", "add", "(I)I"⟩ : MethodName)) (z := (⟨"com/example/bytewright/bytewright/grid/ObjectStarts", "add", "(I)I"⟩ : MethodName)) hown (mvT hZ (hw _ (List.mem_of_getElem? (i := 13) rfl))) (mvT hZ (hw _ (List.mem_of_getElem? (i := 14) rfl))) (notFace_of_selects (args := #[]) (mvT hZ (hw _ (List.mem_of_getElem? (i := 16) rfl)))) (mvT hZ (hw _ (List.mem_of_getElem? (i := 16) rfl))) (mvT hZ (hw _ (List.mem_of_getElem? (i := 15) rfl))) (by decide) (backOf (W := 0) (rm3c0 l Z a0 hw [] b59 va ab61 kb61 (0 : Int32) (0 : Int32) (0 : Int32) (0 : Int32) T61.heap n0 (Nat.le_trans Z0 K61.1) Fo61 Fn61 (A59.keep Kc61) g_b59 Va61 g_ab61 hne61) hZ (hw _ (List.mem_of_getElem? (i := 17) rfl)) (hw _ (List.mem_of_getElem? (i := 3) rfl)) (by decide) (by decide)) q63a q63c (g := (mkF m 162 #[iv p0, iv p1, iv p2, iv p3, iv p4, iv p5, iv va, iv vb, iv vc, iv (1 : Int32), iv (p4 &&& (7 : Int32)), iv off, rv b59, .unset, .unset, .unset, .unset, .unset, .unset] [(.int va), (.ref b59)])) rfl (by rw [hml]; rfl) (Steps.refl _) (argsL := [(.int va)]) (rest := []) (lenOf pd8 rfl) rfl (by show 2 * 0 + _ ≤ _; exact Nat.le_of_eq rfl) (hb hby at_162) (fun _ _ => ⟨rfl, rfl, (by decide : 2 + 0 ≤ _), (by decide : 18 + 0 ≤ _)⟩)
    dsimp only [Pt.U, Pt.locs, Pt.cells, Pt.slots] at X63 l63 y63 z63 st63 hQ63
    subst l63 y63 z63
    obtain ⟨rfl, N63q, Kc63, Fo63, Fn63, Va63⟩ := hQ63
    have N63 := Fr.app N61 N63q
    have K63 : Keep h0 T63.heap [] := K61.trans Kc63 (allS (Or.inr sz_b59) (allS (Or.inr sz_ab61) all0))
    have pre64 : ∀ t, Steps p.tables e below (T63.setTop (mkF m 198 #[iv p0, iv p1, iv p2, iv p3, iv p4, iv p5, iv va, iv vb, iv vc, iv (1 : Int32), iv (p4 &&& (7 : Int32)), iv off, rv b59, .unset, .unset, .unset, .unset, .unset, .unset] [(.int off), (.ref b59)])) t → Steps p.tables e below (s₁.setTop (entryFrame m #[(.int p0), (.int p1), (.int p2), (.int p3), (.int p4), (.int p5)] maxLocals)) t := by
      intro t kt
      refine pre62 _ ?_
      show Steps p.tables e below (T61.setTop (mkF m 162 #[iv p0, iv p1, iv p2, iv p3, iv p4, iv p5, iv va, iv vb, iv vc, iv (1 : Int32), iv (p4 &&& (7 : Int32)), iv off, rv b59, .unset, .unset, .unset, .unset, .unset, .unset] [(.int va), (.ref b59)])) _
      refine st63.trans ?_
      show Steps p.tables e below (T63.setTop (mkF m 165 #[iv p0, iv p1, iv p2, iv p3, iv p4, iv p5, iv va, iv vb, iv vc, iv (1 : Int32), iv (p4 &&& (7 : Int32)), iv off, rv b59, .unset, .unset, .unset, .unset, .unset, .unset] [(.int (0 : Int32))])) _
      refine XS.pop X63.here hx rfl (hb hby at_165) rfl rfl ?_
      refine XS.iload X63.here hx rfl (hb hby at_166) rfl ?_
      refine XS.iconst X63.here hx rfl (hb hby at_168) ?_
      refine XS.icmpYes X63.here hx rfl (pc0 := 169) (pc' := 180) rfl (hb hby at_169) rfl (tlt (by decide)).1 (by decide) (by decide) ?_
      refine XS.iload X63.here hx rfl (hb hby at_180) rfl ?_
      refine XS.iconst X63.here hx rfl (hb hby at_182) ?_
      refine XS.icmpYes X63.here hx rfl (pc0 := 183) (pc' := 194) rfl (hb hby at_183) rfl (tlt (by decide)).1 (by decide) (by decide) ?_
      refine XS.aload X63.here hx rfl (hb hby at_194) rfl rfl ?_
      show Steps p.tables e below (T63.setTop (mkF m 196 #[iv p0, iv p1, iv p2, iv p3, iv p4, iv p5, iv va, iv vb, iv vc, iv (1 : Int32), iv (p4 &&& (7 : Int32)), iv off, rv b59, .unset, .unset, .unset, .unset, .unset, .unset] [(.ref b59)])) _
      refine XS.iload X63.here hx rfl (hb hby at_196) rfl ?_
      exact kt
    obtain ⟨cq65, kq65, q65a, q65b, q65c⟩ := isOf hZ rfl ((A59.keep Kc61).keep Kc63)
    obtain ⟨_, _, ⟨T65, L65, k65, n65⟩, -, X65, ⟨Lc65, hQ65, l65, y65, z65⟩, st65⟩ := X63.virtualBack hx (y := (⟨"com/example/bytewright/bytewright/grid/ObjectStarts", "forgetFrom", "(I)V"⟩ : MethodName)) (z := (⟨"com/example/bytewright/bytewright/grid/ObjectStarts", "forgetFrom", "(I)V"⟩ : MethodName)) hown (mvT hZ (hw _ (List.mem_of_getElem? (i := 20) rfl))) (mvT hZ (hw _ (List.mem_of_getElem? (i := 21) rfl))) (notFace_of_selects (args := #[]) (mvT hZ (hw _ (List.mem_of_getElem? (i := 23) rfl)))) (mvT hZ (hw _ (List.mem_of_getElem? (i := 23) rfl))) (mvT hZ (hw _ (List.mem_of_getElem? (i := 22) rfl))) (by decide) (backOf (W := 0) (rm4c1 l Z a0 hw [] b59 off ab61 kb61 va (0 : Int32) (0 : Int32) (0 : Int32) T63.heap n0 (Nat.le_trans Z0 K63.1) Fo63 Fn63 ((A59.keep Kc61).keep Kc63) g_b59 Va63 g_ab61 hne61) hZ (hw _ (List.mem_of_getElem? (i := 24) rfl)) (hw _ (List.mem_of_getElem? (i := 3) rfl)) (by decide) (by decide)) q65a q65c (g := (mkF m 198 #[iv p0, iv p1, iv p2, iv p3, iv p4, iv p5, iv va, iv vb, iv vc, iv (1 : Int32), iv (p4 &&& (7 : Int32)), iv off, rv b59, .unset, .unset, .unset, .unset, .unset, .unset] [(.int off), (.ref b59)])) rfl (by rw [hml]; rfl) (Steps.refl _) (argsL := [(.int off)]) (rest := []) (lenOf pd6 rfl) rfl (by show 2 * 0 + _ ≤ _; exact Nat.le_of_eq rfl) (hb hby at_198) (fun _ _ => ⟨rfl, rfl, (by decide : 2 + 0 ≤ _), (by decide : 18 + 0 ≤ _)⟩)
    dsimp only [Pt.U, Pt.locs, Pt.cells, Pt.slots] at X65 l65 y65 z65 st65 hQ65
    subst l65 y65 z65
    obtain ⟨kk65, rfl, N65q, Kc65, Fo65, Fn65, Va65, hs65⟩ := hQ65
    have N65 := Fr.app N63 N65q
    have K65 : Keep h0 T65.heap [] := K63.trans Kc65 (allS (Or.inr sz_b59) (allS (Or.inr sz_ab61) all0))
    have pre66 : ∀ t, Steps p.tables e below (T65.setTop (mkF m 201 #[iv p0, iv p1, iv p2, iv p3, iv p4, iv p5, iv va, iv vb, iv vc, iv (1 : Int32), iv (p4 &&& (7 : Int32)), iv off, rv b59, .unset, .unset, .unset, .unset, .unset, .unset] [])) t → Steps p.tables e below (s₁.setTop (entryFrame m #[(.int p0), (.int p1), (.int p2), (.int p3), (.int p4), (.int p5)] maxLocals)) t := by
      intro t kt
      refine pre64 _ ?_
      show Steps p.tables e below (T63.setTop (mkF m 198 #[iv p0, iv p1, iv p2, iv p3, iv p4, iv p5, iv va, iv vb, iv vc, iv (1 : Int32), iv (p4 &&& (7 : Int32)), iv off, rv b59, .unset, .unset, .unset, .unset, .unset, .unset] [(.int off), (.ref b59)])) _
      refine st65.trans ?_
      exact kt
    rcases hs65 with ⟨t0, rfl⟩ | ⟨t0, rfl⟩
    · have hkk := Nat.le_refl 0
      rw [Int32.lt_iff_toInt_lt] at t0
      have pre68 : ∀ t, Steps p.tables e below (T65.setTop (mkF m 211 #[iv p0, iv p1, iv p2, iv p3, iv p4, iv p5, iv va, iv vb, iv vc, iv (1 : Int32), iv (p4 &&& (7 : Int32)), iv off, rv b59, .unset, .unset, .unset, .unset, .unset, .unset] [(.int off), (.int va)])) t → Steps p.tables e below (s₁.setTop (entryFrame m #[(.int p0), (.int p1), (.int p2), (.int p3), (.int p4), (.int p5)] maxLocals)) t := by
        intro t kt
        refine pre66 _ ?_
        show Steps p.tables e below (T65.setTop (mkF m 201 #[iv p0, iv p1, iv p2, iv p3, iv p4, iv p5, iv va, iv vb, iv vc, iv (1 : Int32), iv (p4 &&& (7 : Int32)), iv off, rv b59, .unset, .unset, .unset, .unset, .unset, .unset] [])) _
        refine XS.iload X65.here hx rfl (hb hby at_201) rfl ?_
        refine XS.iconst X65.here hx rfl (hb hby at_203) ?_
        refine XS.icmpNo X65.here hx rfl (hb hby at_204) rfl (flt (by decide)).1 ?_
        refine XS.iload X65.here hx rfl (hb hby at_207) rfl ?_
        refine XS.iload X65.here hx rfl (hb hby at_209) rfl ?_
        exact kt
      have hc211_67 : va < off := by rw [Int32.lt_iff_toInt_lt]; omega
      obtain ⟨vt, h_vt⟩ : ∃ z : Int32, z = (vc + (1 : Int32)) := ⟨_, rfl⟩
      have hvt := own_next vc vt h_vt (by omega)
      have pre69 : ∀ t, Steps p.tables e below (T65.setTop (mkF m 310 #[iv p0, iv p1, iv p2, iv p3, iv p4, iv p5, iv va, iv vb, iv vc, iv (1 : Int32), iv (p4 &&& (7 : Int32)), iv off, rv b59, iv (1 : Int32), iv (0 : Int32), iv (0 : Int32), iv (1 : Int32), iv vt, .unset] [(.int (vt - va)), (.int vt), (.ref b59)])) t → Steps p.tables e below (s₁.setTop (entryFrame m #[(.int p0), (.int p1), (.int p2), (.int p3), (.int p4), (.int p5)] maxLocals)) t := by
        intro t kt
        refine pre68 _ ?_
        show Steps p.tables e below (T65.setTop (mkF m 211 #[iv p0, iv p1, iv p2, iv p3, iv p4, iv p5, iv va, iv vb, iv vc, iv (1 : Int32), iv (p4 &&& (7 : Int32)), iv off, rv b59, .unset, .unset, .unset, .unset, .unset, .unset] [(.int off), (.int va)])) _
        refine XS.icmpNo X65.here hx rfl (hb hby at_211) rfl (tlt hc211_67).2.1 ?_
        refine XS.iconst X65.here hx rfl (hb hby at_214) ?_
        refine XS.goto X65.here hx rfl (pc0 := 215) (pc' := 219) rfl (hb hby at_215) (by decide) (by decide) ?_
        refine XS.istore X65.here hx rfl (hb hby at_219) rfl (l' := #[iv p0, iv p1, iv p2, iv p3, iv p4, iv p5, iv va, iv vb, iv vc, iv (1 : Int32), iv (p4 &&& (7 : Int32)), iv off, rv b59, iv (1 : Int32), .unset, .unset, .unset, .unset, .unset]) rfl ?_
        refine XS.iload X65.here hx rfl (hb hby at_221) rfl ?_
        refine XS.iconst X65.here hx rfl (hb hby at_223) ?_
        refine XS.icmpYes X65.here hx rfl (pc0 := 224) (pc' := 238) rfl (hb hby at_224) rfl (tlt (by decide)).1 (by decide) (by decide) ?_
        refine XS.iconst X65.here hx rfl (hb hby at_238) ?_
        show Steps p.tables e below (T65.setTop (mkF m 239 #[iv p0, iv p1, iv p2, iv p3, iv p4, iv p5, iv va, iv vb, iv vc, iv (1 : Int32), iv (p4 &&& (7 : Int32)), iv off, rv b59, iv (1 : Int32), .unset, .unset, .unset, .unset, .unset] [(.int (0 : Int32))])) _
        refine XS.istore X65.here hx rfl (hb hby at_239) rfl (l' := #[iv p0, iv p1, iv p2, iv p3, iv p4, iv p5, iv va, iv vb, iv vc, iv (1 : Int32), iv (p4 &&& (7 : Int32)), iv off, rv b59, iv (1 : Int32), iv (0 : Int32), .unset, .unset, .unset, .unset]) rfl ?_
        refine XS.iload X65.here hx rfl (hb hby at_241) rfl ?_
        refine XS.iconst X65.here hx rfl (hb hby at_243) ?_
        refine XS.icmpYes X65.here hx rfl (pc0 := 244) (pc' := 258) rfl (hb hby at_244) rfl (tlt (by decide)).1 (by decide) (by decide) ?_
        refine XS.iconst X65.here hx rfl (hb hby at_258) ?_
        refine XS.istore X65.here hx rfl (hb hby at_259) rfl (l' := #[iv p0, iv p1, iv p2, iv p3, iv p4, iv p5, iv va, iv vb, iv vc, iv (1 : Int32), iv (p4 &&& (7 : Int32)), iv off, rv b59, iv (1 : Int32), iv (0 : Int32), iv (0 : Int32), .unset, .unset, .unset]) rfl ?_
        refine XS.iload X65.here hx rfl (hb hby at_261) rfl ?_
        refine XS.ifNo X65.here hx rfl (hb hby at_263) rfl ((if0 _ _).trans (feq (by decide)).1) ?_
        show Steps p.tables e below (T65.setTop (mkF m 266 #[iv p0, iv p1, iv p2, iv p3, iv p4, iv p5, iv va, iv vb, iv vc, iv (1 : Int32), iv (p4 &&& (7 : Int32)), iv off, rv b59, iv (1 : Int32), iv (0 : Int32), iv (0 : Int32), .unset, .unset, .unset] [])) _
        refine XS.iconst X65.here hx rfl (hb hby at_266) ?_
        refine XS.goto X65.here hx rfl (pc0 := 267) (pc' := 271) rfl (hb hby at_267) (by decide) (by decide) ?_
        refine XS.iload X65.here hx rfl (hb hby at_271) rfl ?_
        refine XS.ifYes X65.here hx rfl (pc0 := 273) (pc' := 280) rfl (hb hby at_273) rfl ((if0 _ _).trans (teq (by decide)).1) (by decide) (by decide) ?_
        refine XS.iconst X65.here hx rfl (hb hby at_280) ?_
        refine XS.iadd X65.here hx rfl (hb hby at_281) rfl ?_
        show Steps p.tables e below (T65.setTop (mkF m 282 #[iv p0, iv p1, iv p2, iv p3, iv p4, iv p5, iv va, iv vb, iv vc, iv (1 : Int32), iv (p4 &&& (7 : Int32)), iv off, rv b59, iv (1 : Int32), iv (0 : Int32), iv (0 : Int32), .unset, .unset, .unset] [(.int ((1 : Int32) + (0 : Int32)))])) _
        rw [show ((1 : Int32) + (0 : Int32)) = (1 : Int32) from (by decide)]
        show Steps p.tables e below (T65.setTop (mkF m 282 #[iv p0, iv p1, iv p2, iv p3, iv p4, iv p5, iv va, iv vb, iv vc, iv (1 : Int32), iv (p4 &&& (7 : Int32)), iv off, rv b59, iv (1 : Int32), iv (0 : Int32), iv (0 : Int32), .unset, .unset, .unset] [(.int (1 : Int32))])) _
        refine XS.iload X65.here hx rfl (hb hby at_282) rfl ?_
        refine XS.ifYes X65.here hx rfl (pc0 := 284) (pc' := 291) rfl (hb hby at_284) rfl ((if0 _ _).trans (teq (by decide)).1) (by decide) (by decide) ?_
        refine XS.iconst X65.here hx rfl (hb hby at_291) ?_
        refine XS.iadd X65.here hx rfl (hb hby at_292) rfl ?_
        show Steps p.tables e below (T65.setTop (mkF m 293 #[iv p0, iv p1, iv p2, iv p3, iv p4, iv p5, iv va, iv vb, iv vc, iv (1 : Int32), iv (p4 &&& (7 : Int32)), iv off, rv b59, iv (1 : Int32), iv (0 : Int32), iv (0 : Int32), .unset, .unset, .unset] [(.int ((1 : Int32) + (0 : Int32)))])) _
        rw [show ((1 : Int32) + (0 : Int32)) = (1 : Int32) from (by decide)]
        show Steps p.tables e below (T65.setTop (mkF m 293 #[iv p0, iv p1, iv p2, iv p3, iv p4, iv p5, iv va, iv vb, iv vc, iv (1 : Int32), iv (p4 &&& (7 : Int32)), iv off, rv b59, iv (1 : Int32), iv (0 : Int32), iv (0 : Int32), .unset, .unset, .unset] [(.int (1 : Int32))])) _
        refine XS.istore X65.here hx rfl (hb hby at_293) rfl (l' := #[iv p0, iv p1, iv p2, iv p3, iv p4, iv p5, iv va, iv vb, iv vc, iv (1 : Int32), iv (p4 &&& (7 : Int32)), iv off, rv b59, iv (1 : Int32), iv (0 : Int32), iv (0 : Int32), iv (1 : Int32), .unset, .unset]) rfl ?_
        refine XS.iload X65.here hx rfl (hb hby at_295) rfl ?_
        refine XS.iconst X65.here hx rfl (hb hby at_297) ?_
        refine XS.iadd X65.here hx rfl (hb hby at_298) rfl ?_
        refine XS.istore X65.here hx rfl (hb hby at_299) rfl (l' := #[iv p0, iv p1, iv p2, iv p3, iv p4, iv p5, iv va, iv vb, iv vc, iv (1 : Int32), iv (p4 &&& (7 : Int32)), iv off, rv b59, iv (1 : Int32), iv (0 : Int32), iv (0 : Int32), iv (1 : Int32), iv (vc + (1 : Int32)), .unset]) rfl ?_
        show Steps p.tables e below (T65.setTop (mkF m 301 #[iv p0, iv p1, iv p2, iv p3, iv p4, iv p5, iv va, iv vb, iv vc, iv (1 : Int32), iv (p4 &&& (7 : Int32)), iv off, rv b59, iv (1 : Int32), iv (0 : Int32), iv (0 : Int32), iv (1 : Int32), iv (vc + (1 : Int32)), .unset] [])) _
        rw [← h_vt]
        show Steps p.tables e below (T65.setTop (mkF m 301 #[iv p0, iv p1, iv p2, iv p3, iv p4, iv p5, iv va, iv vb, iv vc, iv (1 : Int32), iv (p4 &&& (7 : Int32)), iv off, rv b59, iv (1 : Int32), iv (0 : Int32), iv (0 : Int32), iv (1 : Int32), iv vt, .unset] [])) _
        refine XS.aload X65.here hx rfl (hb hby at_301) rfl rfl ?_
        refine XS.iload X65.here hx rfl (hb hby at_303) rfl ?_
        refine XS.iload X65.here hx rfl (hb hby at_305) rfl ?_
        refine XS.iload X65.here hx rfl (hb hby at_307) rfl ?_
        refine XS.isub X65.here hx rfl (hb hby at_309) rfl ?_
        exact kt
      obtain ⟨cq70, kq70, q70a, q70b, q70c⟩ := isOf hZ rfl (((A59.keep Kc61).keep Kc63).keep Kc65)
      obtain ⟨_, _, ⟨T70, L70, k70, n70⟩, -, X70, ⟨Lc70, hQ70, l70, y70, z70⟩, st70⟩ := X65.virtualBack hx (y := (⟨"com/example/bytewright/bytewright/grid/ObjectStarts", "indexOf", "(II)I"⟩ : MethodName)) (z := (⟨"com/example/bytewright/bytewright/grid/ObjectStarts", "indexOf", "(II)I"⟩ : MethodName)) hown (mvT hZ (hw _ (List.mem_of_getElem? (i := 25) rfl))) (mvT hZ (hw _ (List.mem_of_getElem? (i := 26) rfl))) (notFace_of_selects (args := #[]) (mvT hZ (hw _ (List.mem_of_getElem? (i := 28) rfl)))) (mvT hZ (hw _ (List.mem_of_getElem? (i := 28) rfl))) (mvT hZ (hw _ (List.mem_of_getElem? (i := 27) rfl))) (by decide) (backOf (W := 0) (rm5c1 l Z a0 hw [] b59 vt (vt - va) ab61 kb61 va (0 : Int32) (0 : Int32) (0 : Int32) va T65.heap n0 (Nat.le_trans Z0 K65.1) Fo65 Fn65 (((A59.keep Kc61).keep Kc63).keep Kc65) Va65 hne61 (own_key vt va (by have := own_next vc vt h_vt (by omega); omega)).1 (own_key vt va (by have := own_next vc vt h_vt (by omega); omega)).2.1 (own_key vt va (by have := own_next vc vt h_vt (by omega); omega)).2.2) hZ (hw _ (List.mem_of_getElem? (i := 29) rfl)) (hw _ (List.mem_of_getElem? (i := 3) rfl)) (by decide) (by decide)) q70a q70c (g := (mkF m 310 #[iv p0, iv p1, iv p2, iv p3, iv p4, iv p5, iv va, iv vb, iv vc, iv (1 : Int32), iv (p4 &&& (7 : Int32)), iv off, rv b59, iv (1 : Int32), iv (0 : Int32), iv (0 : Int32), iv (1 : Int32), iv vt, .unset] [(.int (vt - va)), (.int vt), (.ref b59)])) rfl (by rw [hml]; rfl) (Steps.refl _) (argsL := [(.int vt), (.int (vt - va))]) (rest := []) (lenOf pd7 rfl) rfl (by show 2 * 0 + _ ≤ _; exact Nat.le_of_eq rfl) (hb hby at_310) (fun _ _ => ⟨rfl, rfl, (by decide : 2 + 0 ≤ _), (by decide : 18 + 0 ≤ _)⟩)
      dsimp only [Pt.U, Pt.locs, Pt.cells, Pt.slots] at X70 l70 y70 z70 st70 hQ70
      subst l70 y70 z70
      obtain ⟨rfl, N70q, hh70⟩ := hQ70
      have N70 := Fr.app N65 N70q
      have pre72 : ∀ t, Steps p.tables e below (T70.setTop (mkF m 323 #[iv p0, iv p1, iv p2, iv p3, iv p4, iv p5, iv va, iv vb, iv vc, iv (1 : Int32), iv (p4 &&& (7 : Int32)), iv off, rv b59, iv (1 : Int32), iv (0 : Int32), iv (0 : Int32), iv (1 : Int32), iv vt, .unset] [(.int (0 : Int32)), (.int (own_ix1 va va (0 : Int32) (0 : Int32) (0 : Int32)))])) t → Steps p.tables e below (s₁.setTop (entryFrame m #[(.int p0), (.int p1), (.int p2), (.int p3), (.int p4), (.int p5)] maxLocals)) t := by
        intro t kt
        refine pre69 _ ?_
        show Steps p.tables e below (T65.setTop (mkF m 310 #[iv p0, iv p1, iv p2, iv p3, iv p4, iv p5, iv va, iv vb, iv vc, iv (1 : Int32), iv (p4 &&& (7 : Int32)), iv off, rv b59, iv (1 : Int32), iv (0 : Int32), iv (0 : Int32), iv (1 : Int32), iv vt, .unset] [(.int (vt - va)), (.int vt), (.ref b59)])) _
        refine st70.trans ?_
        show Steps p.tables e below (T70.setTop (mkF m 313 #[iv p0, iv p1, iv p2, iv p3, iv p4, iv p5, iv va, iv vb, iv vc, iv (1 : Int32), iv (p4 &&& (7 : Int32)), iv off, rv b59, iv (1 : Int32), iv (0 : Int32), iv (0 : Int32), iv (1 : Int32), iv vt, .unset] [(.int (own_ix1 va va (0 : Int32) (0 : Int32) (0 : Int32)))])) _
        refine XS.iload X70.here hx rfl (hb hby at_313) rfl ?_
        refine XS.ifNo X70.here hx rfl (hb hby at_315) rfl ((if0 _ _).trans (feq (by decide)).1) ?_
        refine XS.iconst X70.here hx rfl (hb hby at_318) ?_
        refine XS.goto X70.here hx rfl (pc0 := 319) (pc' := 323) rfl (hb hby at_319) (by decide) (by decide) ?_
        exact kt
      have hc323_71 : (own_ix1 va va (0 : Int32) (0 : Int32) (0 : Int32)) = (0 : Int32) := by simp +decide [own_ix1, own_bs1, hab, hbc, hac, nba, ncb, nca, Int32.lt_irrefl]
      have pre73 : ∀ t, Steps p.tables e below (T70.setTop (mkF m 335 #[iv p0, iv p1, iv p2, iv p3, iv p4, iv p5, iv va, iv vb, iv vc, iv (1 : Int32), iv (p4 &&& (7 : Int32)), iv off, rv b59, iv (1 : Int32), iv (0 : Int32), iv (0 : Int32), iv (1 : Int32), iv vt, .unset] [(.int (vt - vb)), (.int vt), (.ref b59)])) t → Steps p.tables e below (s₁.setTop (entryFrame m #[(.int p0), (.int p1), (.int p2), (.int p3), (.int p4), (.int p5)] maxLocals)) t := by
        intro t kt
        refine pre72 _ ?_
        show Steps p.tables e below (T70.setTop (mkF m 323 #[iv p0, iv p1, iv p2, iv p3, iv p4, iv p5, iv va, iv vb, iv vc, iv (1 : Int32), iv (p4 &&& (7 : Int32)), iv off, rv b59, iv (1 : Int32), iv (0 : Int32), iv (0 : Int32), iv (1 : Int32), iv vt, .unset] [(.int (0 : Int32)), (.int (own_ix1 va va (0 : Int32) (0 : Int32) (0 : Int32)))])) _
        refine XS.icmpNo X70.here hx rfl (hb hby at_323) rfl (teq hc323_71).2 ?_
        refine XS.aload X70.here hx rfl (hb hby at_326) rfl rfl ?_
        refine XS.iload X70.here hx rfl (hb hby at_328) rfl ?_
        refine XS.iload X70.here hx rfl (hb hby at_330) rfl ?_
        refine XS.iload X70.here hx rfl (hb hby at_332) rfl ?_
        refine XS.isub X70.here hx rfl (hb hby at_334) rfl ?_
        exact kt
      obtain ⟨cq74, kq74, q74a, q74b, q74c⟩ := isOf hZ hh70 (((A59.keep Kc61).keep Kc63).keep Kc65)
      obtain ⟨_, _, ⟨T74, L74, k74, n74⟩, -, X74, ⟨Lc74, hQ74, l74, y74, z74⟩, st74⟩ := X70.virtualBack hx (y := (⟨"com/example/bytewright/bytewright/grid/ObjectStarts", "indexOf", "(II)I"⟩ : MethodName)) (z := (⟨"com/example/bytewright/bytewright/grid/ObjectStarts", "indexOf", "(II)I"⟩ : MethodName)) hown (mvT hZ (hw _ (List.mem_of_getElem? (i := 25) rfl))) (mvT hZ (hw _ (List.mem_of_getElem? (i := 26) rfl))) (notFace_of_selects (args := #[]) (mvT hZ (hw _ (List.mem_of_getElem? (i := 28) rfl)))) (mvT hZ (hw _ (List.mem_of_getElem? (i := 28) rfl))) (mvT hZ (hw _ (List.mem_of_getElem? (i := 27) rfl))) (by decide) (backOf (W := 0) (rm5c1 l Z a0 hw [] b59 vt (vt - vb) ab61 kb61 va (0 : Int32) (0 : Int32) (0 : Int32) vb T65.heap n0 (Nat.le_trans Z0 K65.1) Fo65 Fn65 (((A59.keep Kc61).keep Kc63).keep Kc65) Va65 hne61 (own_key vt vb (by have := own_next vc vt h_vt (by omega); omega)).1 (own_key vt vb (by have := own_next vc vt h_vt (by omega); omega)).2.1 (own_key vt vb (by have := own_next vc vt h_vt (by omega); omega)).2.2) hZ (hw _ (List.mem_of_getElem? (i := 29) rfl)) (hw _ (List.mem_of_getElem? (i := 3) rfl)) (by decide) (by decide)) q74a q74c (g := (mkF m 335 #[iv p0, iv p1, iv p2, iv p3, iv p4, iv p5, iv va, iv vb, iv vc, iv (1 : Int32), iv (p4 &&& (7 : Int32)), iv off, rv b59, iv (1 : Int32), iv (0 : Int32), iv (0 : Int32), iv (1 : Int32), iv vt, .unset] [(.int (vt - vb)), (.int vt), (.ref b59)])) rfl (by rw [hml]; rfl) (Steps.refl _) (argsL := [(.int vt), (.int (vt - vb))]) (rest := []) (lenOf pd7 rfl) rfl (by show 2 * 0 + _ ≤ _; exact Nat.le_of_eq rfl) (hb hby at_335) (fun _ _ => ⟨rfl, hh70, (by decide : 2 + 0 ≤ _), (by decide : 18 + 0 ≤ _)⟩)
      dsimp only [Pt.U, Pt.locs, Pt.cells, Pt.slots] at X74 l74 y74 z74 st74 hQ74
      subst l74 y74 z74
      obtain ⟨rfl, N74q, hh74⟩ := hQ74
      have N74 := Fr.app N70 N74q
      have pre76 : ∀ t, Steps p.tables e below (T74.setTop (mkF m 348 #[iv p0, iv p1, iv p2, iv p3, iv p4, iv p5, iv va, iv vb, iv vc, iv (1 : Int32), iv (p4 &&& (7 : Int32)), iv off, rv b59, iv (1 : Int32), iv (0 : Int32), iv (0 : Int32), iv (1 : Int32), iv vt, .unset] [(.int (-1 : Int32)), (.int (own_ix1 vb va (0 : Int32) (0 : Int32) (0 : Int32)))])) t → Steps p.tables e below (s₁.setTop (entryFrame m #[(.int p0), (.int p1), (.int p2), (.int p3), (.int p4), (.int p5)] maxLocals)) t := by
        intro t kt
        refine pre73 _ ?_
        show Steps p.tables e below (T70.setTop (mkF m 335 #[iv p0, iv p1, iv p2, iv p3, iv p4, iv p5, iv va, iv vb, iv vc, iv (1 : Int32), iv (p4 &&& (7 : Int32)), iv off, rv b59, iv (1 : Int32), iv (0 : Int32), iv (0 : Int32), iv (1 : Int32), iv vt, .unset] [(.int (vt - vb)), (.int vt), (.ref b59)])) _
        refine st74.trans ?_
        show Steps p.tables e below (T74.setTop (mkF m 338 #[iv p0, iv p1, iv p2, iv p3, iv p4, iv p5, iv va, iv vb, iv vc, iv (1 : Int32), iv (p4 &&& (7 : Int32)), iv off, rv b59, iv (1 : Int32), iv (0 : Int32), iv (0 : Int32), iv (1 : Int32), iv vt, .unset] [(.int (own_ix1 vb va (0 : Int32) (0 : Int32) (0 : Int32)))])) _
        refine XS.iload X74.here hx rfl (hb hby at_338) rfl ?_
        refine XS.ifYes X74.here hx rfl (pc0 := 340) (pc' := 347) rfl (hb hby at_340) rfl ((if0 _ _).trans (teq (by decide)).1) (by decide) (by decide) ?_
        refine XS.iconst X74.here hx rfl (hb hby at_347) ?_
        exact kt
      have hc348_75 : (own_ix1 vb va (0 : Int32) (0 : Int32) (0 : Int32)) = (-1 : Int32) := by simp +decide [own_ix1, own_bs1, hab, hbc, hac, nba, ncb, nca, Int32.lt_irrefl]
      have pre77 : ∀ t, Steps p.tables e below (T74.setTop (mkF m 360 #[iv p0, iv p1, iv p2, iv p3, iv p4, iv p5, iv va, iv vb, iv vc, iv (1 : Int32), iv (p4 &&& (7 : Int32)), iv off, rv b59, iv (1 : Int32), iv (0 : Int32), iv (0 : Int32), iv (1 : Int32), iv vt, .unset] [(.int (vt - vc)), (.int vt), (.ref b59)])) t → Steps p.tables e below (s₁.setTop (entryFrame m #[(.int p0), (.int p1), (.int p2), (.int p3), (.int p4), (.int p5)] maxLocals)) t := by
        intro t kt
        refine pre76 _ ?_
        show Steps p.tables e below (T74.setTop (mkF m 348 #[iv p0, iv p1, iv p2, iv p3, iv p4, iv p5, iv va, iv vb, iv vc, iv (1 : Int32), iv (p4 &&& (7 : Int32)), iv off, rv b59, iv (1 : Int32), iv (0 : Int32), iv (0 : Int32), iv (1 : Int32), iv vt, .unset] [(.int (-1 : Int32)), (.int (own_ix1 vb va (0 : Int32) (0 : Int32) (0 : Int32)))])) _
        refine XS.icmpNo X74.here hx rfl (hb hby at_348) rfl (teq hc348_75).2 ?_
        refine XS.aload X74.here hx rfl (hb hby at_351) rfl rfl ?_
        refine XS.iload X74.here hx rfl (hb hby at_353) rfl ?_
        refine XS.iload X74.here hx rfl (hb hby at_355) rfl ?_
        refine XS.iload X74.here hx rfl (hb hby at_357) rfl ?_
        refine XS.isub X74.here hx rfl (hb hby at_359) rfl ?_
        exact kt
      obtain ⟨cq78, kq78, q78a, q78b, q78c⟩ := isOf hZ hh74 (((A59.keep Kc61).keep Kc63).keep Kc65)
      obtain ⟨_, _, ⟨T78, L78, k78, n78⟩, -, X78, ⟨Lc78, hQ78, l78, y78, z78⟩, st78⟩ := X74.virtualBack hx (y := (⟨"com/example/bytewright/bytewright/grid/ObjectStarts", "indexOf", "(II)I"⟩ : MethodName)) (z := (⟨"com/example/bytewright/bytewright/grid/ObjectStarts", "indexOf", "(II)I"⟩ : MethodName)) hown (mvT hZ (hw _ (List.mem_of_getElem? (i := 25) rfl))) (mvT hZ (hw _ (List.mem_of_getElem? (i := 26) rfl))) (notFace_of_selects (args := #[]) (mvT hZ (hw _ (List.mem_of_getElem? (i := 28) rfl)))) (mvT hZ (hw _ (List.mem_of_getElem? (i := 28) rfl))) (mvT hZ (hw _ (List.mem_of_getElem? (i := 27) rfl))) (by decide) (backOf (W := 0) (rm5c1 l Z a0 hw [] b59 vt (vt - vc) ab61 kb61 va (0 : Int32) (0 : Int32) (0 : Int32) vc T65.heap n0 (Nat.le_trans Z0 K65.1) Fo65 Fn65 (((A59.keep Kc61).keep Kc63).keep Kc65) Va65 hne61 (own_key vt vc (by have := own_next vc vt h_vt (by omega); omega)).1 (own_key vt vc (by have := own_next vc vt h_vt (by omega); omega)).2.1 (own_key vt vc (by have := own_next vc vt h_vt (by omega); omega)).2.2) hZ (hw _ (List.mem_of_getElem? (i := 29) rfl)) (hw _ (List.mem_of_getElem? (i := 3) rfl)) (by decide) (by decide)) q78a q78c (g := (mkF m 360 #[iv p0, iv p1, iv p2, iv p3, iv p4, iv p5, iv va, iv vb, iv vc, iv (1 : Int32), iv (p4 &&& (7 : Int32)), iv off, rv b59, iv (1 : Int32), iv (0 : Int32), iv (0 : Int32), iv (1 : Int32), iv vt, .unset] [(.int (vt - vc)), (.int vt), (.ref b59)])) rfl (by rw [hml]; rfl) (Steps.refl _) (argsL := [(.int vt), (.int (vt - vc))]) (rest := []) (lenOf pd7 rfl) rfl (by show 2 * 0 + _ ≤ _; exact Nat.le_of_eq rfl) (hb hby at_360) (fun _ _ => ⟨rfl, hh74, (by decide : 2 + 0 ≤ _), (by decide : 18 + 0 ≤ _)⟩)
      dsimp only [Pt.U, Pt.locs, Pt.cells, Pt.slots] at X78 l78 y78 z78 st78 hQ78
      subst l78 y78 z78
      obtain ⟨rfl, N78q, hh78⟩ := hQ78
      have N78 := Fr.app N74 N78q
      have pre80 : ∀ t, Steps p.tables e below (T78.setTop (mkF m 373 #[iv p0, iv p1, iv p2, iv p3, iv p4, iv p5, iv va, iv vb, iv vc, iv (1 : Int32), iv (p4 &&& (7 : Int32)), iv off, rv b59, iv (1 : Int32), iv (0 : Int32), iv (0 : Int32), iv (1 : Int32), iv vt, .unset] [(.int (-1 : Int32)), (.int (own_ix1 vc va (0 : Int32) (0 : Int32) (0 : Int32)))])) t → Steps p.tables e below (s₁.setTop (entryFrame m #[(.int p0), (.int p1), (.int p2), (.int p3), (.int p4), (.int p5)] maxLocals)) t := by
        intro t kt
        refine pre77 _ ?_
        show Steps p.tables e below (T74.setTop (mkF m 360 #[iv p0, iv p1, iv p2, iv p3, iv p4, iv p5, iv va, iv vb, iv vc, iv (1 : Int32), iv (p4 &&& (7 : Int32)), iv off, rv b59, iv (1 : Int32), iv (0 : Int32), iv (0 : Int32), iv (1 : Int32), iv vt, .unset] [(.int (vt - vc)), (.int vt), (.ref b59)])) _
        refine st78.trans ?_
        show Steps p.tables e below (T78.setTop (mkF m 363 #[iv p0, iv p1, iv p2, iv p3, iv p4, iv p5, iv va, iv vb, iv vc, iv (1 : Int32), iv (p4 &&& (7 : Int32)), iv off, rv b59, iv (1 : Int32), iv (0 : Int32), iv (0 : Int32), iv (1 : Int32), iv vt, .unset] [(.int (own_ix1 vc va (0 : Int32) (0 : Int32) (0 : Int32)))])) _
        refine XS.iload X78.here hx rfl (hb hby at_363) rfl ?_
        refine XS.ifYes X78.here hx rfl (pc0 := 365) (pc' := 372) rfl (hb hby at_365) rfl ((if0 _ _).trans (teq (by decide)).1) (by decide) (by decide) ?_
        refine XS.iconst X78.here hx rfl (hb hby at_372) ?_
        exact kt
      have hc373_79 : (own_ix1 vc va (0 : Int32) (0 : Int32) (0 : Int32)) = (-1 : Int32) := by simp +decide [own_ix1, own_bs1, hab, hbc, hac, nba, ncb, nca, Int32.lt_irrefl]
      have pre81 : ∀ t, Steps p.tables e below (T78.setTop (mkF m 392 #[iv p0, iv p1, iv p2, iv p3, iv p4, iv p5, iv va, iv vb, iv vc, iv (1 : Int32), iv (p4 &&& (7 : Int32)), iv off, rv b59, iv (1 : Int32), iv (0 : Int32), iv (0 : Int32), iv (1 : Int32), iv vt, iv (1 : Int32)] [(.int vt), (.ref b59)])) t → Steps p.tables e below (s₁.setTop (entryFrame m #[(.int p0), (.int p1), (.int p2), (.int p3), (.int p4), (.int p5)] maxLocals)) t := by
        intro t kt
        refine pre80 _ ?_
        show Steps p.tables e below (T78.setTop (mkF m 373 #[iv p0, iv p1, iv p2, iv p3, iv p4, iv p5, iv va, iv vb, iv vc, iv (1 : Int32), iv (p4 &&& (7 : Int32)), iv off, rv b59, iv (1 : Int32), iv (0 : Int32), iv (0 : Int32), iv (1 : Int32), iv vt, .unset] [(.int (-1 : Int32)), (.int (own_ix1 vc va (0 : Int32) (0 : Int32) (0 : Int32)))])) _
        refine XS.icmpNo X78.here hx rfl (hb hby at_373) rfl (teq hc373_79).2 ?_
        refine XS.iconst X78.here hx rfl (hb hby at_376) ?_
        refine XS.goto X78.here hx rfl (pc0 := 377) (pc' := 381) rfl (hb hby at_377) (by decide) (by decide) ?_
        refine XS.istore X78.here hx rfl (hb hby at_381) rfl (l' := #[iv p0, iv p1, iv p2, iv p3, iv p4, iv p5, iv va, iv vb, iv vc, iv (1 : Int32), iv (p4 &&& (7 : Int32)), iv off, rv b59, iv (1 : Int32), iv (0 : Int32), iv (0 : Int32), iv (1 : Int32), iv vt, iv (1 : Int32)]) rfl ?_
        refine XS.iload X78.here hx rfl (hb hby at_383) rfl ?_
        refine XS.ifNo X78.here hx rfl (hb hby at_385) rfl ((if0 _ _).trans (feq (by decide)).1) ?_
        refine XS.aload X78.here hx rfl (hb hby at_388) rfl rfl ?_
        refine XS.iload X78.here hx rfl (hb hby at_390) rfl ?_
        exact kt
      obtain ⟨cq82, kq82, q82a, q82b, q82c⟩ := isOf hZ hh78 (((A59.keep Kc61).keep Kc63).keep Kc65)
      obtain ⟨_, _, ⟨T82, L82, k82, n82⟩, -, X82, ⟨Lc82, hQ82, l82, y82, z82⟩, st82⟩ := X78.virtualBack hx (y := (⟨"com/example/bytewright/bytewright/grid/ObjectStarts", "add", "(I)I"⟩ : MethodName)) (z := (⟨"com/example/bytewright/bytewright/grid/ObjectStarts", "add", "(I)I"⟩ : MethodName)) hown (mvT hZ (hw _ (List.mem_of_getElem? (i := 13) rfl))) (mvT hZ (hw _ (List.mem_of_getElem? (i := 14) rfl))) (notFace_of_selects (args := #[]) (mvT hZ (hw _ (List.mem_of_getElem? (i := 16) rfl)))) (mvT hZ (hw _ (List.mem_of_getElem? (i := 16) rfl))) (mvT hZ (hw _ (List.mem_of_getElem? (i := 15) rfl))) (by decide) (backOf (W := 0) (rm3c1 l Z a0 hw [] b59 vt ab61 kb61 va (0 : Int32) (0 : Int32) (0 : Int32) T65.heap n0 (Nat.le_trans Z0 K65.1) Fo65 Fn65 (((A59.keep Kc61).keep Kc63).keep Kc65) g_b59 Va65 g_ab61 hne61 (Int32.lt_iff_toInt_lt.mpr (by omega))) hZ (hw _ (List.mem_of_getElem? (i := 17) rfl)) (hw _ (List.mem_of_getElem? (i := 3) rfl)) (by decide) (by decide)) q82a q82c (g := (mkF m 392 #[iv p0, iv p1, iv p2, iv p3, iv p4, iv p5, iv va, iv vb, iv vc, iv (1 : Int32), iv (p4 &&& (7 : Int32)), iv off, rv b59, iv (1 : Int32), iv (0 : Int32), iv (0 : Int32), iv (1 : Int32), iv vt, iv (1 : Int32)] [(.int vt), (.ref b59)])) rfl (by rw [hml]; rfl) (Steps.refl _) (argsL := [(.int vt)]) (rest := []) (lenOf pd8 rfl) rfl (by show 2 * 0 + _ ≤ _; exact Nat.le_of_eq rfl) (hb hby at_392) (fun _ _ => ⟨rfl, hh78, (by decide : 2 + 0 ≤ _), (by decide : 18 + 0 ≤ _)⟩)
      dsimp only [Pt.U, Pt.locs, Pt.cells, Pt.slots] at X82 l82 y82 z82 st82 hQ82
      subst l82 y82 z82
      obtain ⟨rfl, N82q, Kc82, Fo82, Fn82, Va82⟩ := hQ82
      have N82 := Fr.app N78 N82q
      have K82 : Keep h0 T82.heap [] := K65.trans Kc82 (allS (Or.inr sz_b59) (allS (Or.inr sz_ab61) all0))
      have pre83 : ∀ t, Steps p.tables e below (T82.setTop (mkF m 405 #[iv p0, iv p1, iv p2, iv p3, iv p4, iv p5, iv va, iv vb, iv vc, iv (1 : Int32), iv (p4 &&& (7 : Int32)), iv off, rv b59, iv (1 : Int32), iv (0 : Int32), iv (0 : Int32), iv (1 : Int32), iv vt, iv (1 : Int32)] [(.int (1 : Int32))])) t → Steps p.tables e below (s₁.setTop (entryFrame m #[(.int p0), (.int p1), (.int p2), (.int p3), (.int p4), (.int p5)] maxLocals)) t := by
        intro t kt
        refine pre81 _ ?_
        show Steps p.tables e below (T78.setTop (mkF m 392 #[iv p0, iv p1, iv p2, iv p3, iv p4, iv p5, iv va, iv vb, iv vc, iv (1 : Int32), iv (p4 &&& (7 : Int32)), iv off, rv b59, iv (1 : Int32), iv (0 : Int32), iv (0 : Int32), iv (1 : Int32), iv vt, iv (1 : Int32)] [(.int vt), (.ref b59)])) _
        refine st82.trans ?_
        show Steps p.tables e below (T82.setTop (mkF m 395 #[iv p0, iv p1, iv p2, iv p3, iv p4, iv p5, iv va, iv vb, iv vc, iv (1 : Int32), iv (p4 &&& (7 : Int32)), iv off, rv b59, iv (1 : Int32), iv (0 : Int32), iv (0 : Int32), iv (1 : Int32), iv vt, iv (1 : Int32)] [(.int (1 : Int32))])) _
        refine XS.iload X82.here hx rfl (hb hby at_395) rfl ?_
        refine XS.icmpNo X82.here hx rfl (hb hby at_397) rfl (teq (by decide)).2 ?_
        refine XS.iconst X82.here hx rfl (hb hby at_400) ?_
        refine XS.goto X82.here hx rfl (pc0 := 401) (pc' := 405) rfl (hb hby at_401) (by decide) (by decide) ?_
        exact kt
      obtain ⟨fs, hr, hrun, hended, hW, hsame⟩ := X82.leave (v := some (.int (1 : Int32))) (fun h => by rw [Bd.returns] at h; cases h)
      refine ⟨_, _, pre83 _ ?_, hrun, hended, _, _, rfl, ?_, ⟨_, rfl⟩, hW, hsame.mono (by decide) (by decide)⟩
      · show Steps p.tables e below (T82.setTop (mkF m 405 #[iv p0, iv p1, iv p2, iv p3, iv p4, iv p5, iv va, iv vb, iv vc, iv (1 : Int32), iv (p4 &&& (7 : Int32)), iv off, rv b59, iv (1 : Int32), iv (0 : Int32), iv (0 : Int32), iv (1 : Int32), iv vt, iv (1 : Int32)] [(.int (1 : Int32))])) _
        exact retN X82 hx (t := .boolean) Bd.returns (by simp) (hb hby at_405) hr
      · show Q0 Z p0 p1 p2 p3 p4 p5 h0 n0 _ T82.heap _
        exact ⟨rfl, N82⟩
    · have hkk := Nat.le_refl 0
      rw [Int32.lt_iff_toInt_lt] at t0
      have pre85 : ∀ t, Steps p.tables e below (T65.setTop (mkF m 211 #[iv p0, iv p1, iv p2, iv p3, iv p4, iv p5, iv va, iv vb, iv vc, iv (1 : Int32), iv (p4 &&& (7 : Int32)), iv off, rv b59, .unset, .unset, .unset, .unset, .unset, .unset] [(.int off), (.int va)])) t → Steps p.tables e below (s₁.setTop (entryFrame m #[(.int p0), (.int p1), (.int p2), (.int p3), (.int p4), (.int p5)] maxLocals)) t := by
        intro t kt
        refine pre66 _ ?_
        show Steps p.tables e below (T65.setTop (mkF m 201 #[iv p0, iv p1, iv p2, iv p3, iv p4, iv p5, iv va, iv vb, iv vc, iv (1 : Int32), iv (p4 &&& (7 : Int32)), iv off, rv b59, .unset, .unset, .unset, .unset, .unset, .unset] [])) _
        refine XS.iload X65.here hx rfl (hb hby at_201) rfl ?_
        refine XS.iconst X65.here hx rfl (hb hby at_203) ?_
        refine XS.icmpNo X65.here hx rfl (hb hby at_204) rfl (flt (by decide)).1 ?_
        refine XS.iload X65.here hx rfl (hb hby at_207) rfl ?_
        refine XS.iload X65.here hx rfl (hb hby at_209) rfl ?_
        exact kt
      have hc211_84 : ¬ (va < off) := by rw [Int32.lt_iff_toInt_lt]; omega
      obtain ⟨vt, h_vt⟩ : ∃ z : Int32, z = (vc + (1 : Int32)) := ⟨_, rfl⟩
      have hvt := own_next vc vt h_vt (by omega)
      have pre86 : ∀ t, Steps p.tables e below (T65.setTop (mkF m 310 #[iv p0, iv p1, iv p2, iv p3, iv p4, iv p5, iv va, iv vb, iv vc, iv (1 : Int32), iv (p4 &&& (7 : Int32)), iv off, rv b59, iv (0 : Int32), iv (0 : Int32), iv (0 : Int32), iv (0 : Int32), iv vt, .unset] [(.int (vt - va)), (.int vt), (.ref b59)])) t → Steps p.tables e below (s₁.setTop (entryFrame m #[(.int p0), (.int p1), (.int p2), (.int p3), (.int p4), (.int p5)] maxLocals)) t := by
        intro t kt
        refine pre85 _ ?_
        show Steps p.tables e below (T65.setTop (mkF m 211 #[iv p0, iv p1, iv p2, iv p3, iv p4, iv p5, iv va, iv vb, iv vc, iv (1 : Int32), iv (p4 &&& (7 : Int32)), iv off, rv b59, .unset, .unset, .unset, .unset, .unset, .unset] [(.int off), (.int va)])) _
        refine XS.icmpYes X65.here hx rfl (pc0 := 211) (pc' := 218) rfl (hb hby at_211) rfl (flt hc211_84).2.1 (by decide) (by decide) ?_
        refine XS.iconst X65.here hx rfl (hb hby at_218) ?_
        refine XS.istore X65.here hx rfl (hb hby at_219) rfl (l' := #[iv p0, iv p1, iv p2, iv p3, iv p4, iv p5, iv va, iv vb, iv vc, iv (1 : Int32), iv (p4 &&& (7 : Int32)), iv off, rv b59, iv (0 : Int32), .unset, .unset, .unset, .unset, .unset]) rfl ?_
        refine XS.iload X65.here hx rfl (hb hby at_221) rfl ?_
        refine XS.iconst X65.here hx rfl (hb hby at_223) ?_
        refine XS.icmpYes X65.here hx rfl (pc0 := 224) (pc' := 238) rfl (hb hby at_224) rfl (tlt (by decide)).1 (by decide) (by decide) ?_
        refine XS.iconst X65.here hx rfl (hb hby at_238) ?_
        refine XS.istore X65.here hx rfl (hb hby at_239) rfl (l' := #[iv p0, iv p1, iv p2, iv p3, iv p4, iv p5, iv va, iv vb, iv vc, iv (1 : Int32), iv (p4 &&& (7 : Int32)), iv off, rv b59, iv (0 : Int32), iv (0 : Int32), .unset, .unset, .unset, .unset]) rfl ?_
        show Steps p.tables e below (T65.setTop (mkF m 241 #[iv p0, iv p1, iv p2, iv p3, iv p4, iv p5, iv va, iv vb, iv vc, iv (1 : Int32), iv (p4 &&& (7 : Int32)), iv off, rv b59, iv (0 : Int32), iv (0 : Int32), .unset, .unset, .unset, .unset] [])) _
        refine XS.iload X65.here hx rfl (hb hby at_241) rfl ?_
        refine XS.iconst X65.here hx rfl (hb hby at_243) ?_
        refine XS.icmpYes X65.here hx rfl (pc0 := 244) (pc' := 258) rfl (hb hby at_244) rfl (tlt (by decide)).1 (by decide) (by decide) ?_
        refine XS.iconst X65.here hx rfl (hb hby at_258) ?_
        refine XS.istore X65.here hx rfl (hb hby at_259) rfl (l' := #[iv p0, iv p1, iv p2, iv p3, iv p4, iv p5, iv va, iv vb, iv vc, iv (1 : Int32), iv (p4 &&& (7 : Int32)), iv off, rv b59, iv (0 : Int32), iv (0 : Int32), iv (0 : Int32), .unset, .unset, .unset]) rfl ?_
        refine XS.iload X65.here hx rfl (hb hby at_261) rfl ?_
        refine XS.ifYes X65.here hx rfl (pc0 := 263) (pc' := 270) rfl (hb hby at_263) rfl ((if0 _ _).trans (teq (by decide)).1) (by decide) (by decide) ?_
        refine XS.iconst X65.here hx rfl (hb hby at_270) ?_
        show Steps p.tables e below (T65.setTop (mkF m 271 #[iv p0, iv p1, iv p2, iv p3, iv p4, iv p5, iv va, iv vb, iv vc, iv (1 : Int32), iv (p4 &&& (7 : Int32)), iv off, rv b59, iv (0 : Int32), iv (0 : Int32), iv (0 : Int32), .unset, .unset, .unset] [(.int (0 : Int32))])) _
        refine XS.iload X65.here hx rfl (hb hby at_271) rfl ?_
        refine XS.ifYes X65.here hx rfl (pc0 := 273) (pc' := 280) rfl (hb hby at_273) rfl ((if0 _ _).trans (teq (by decide)).1) (by decide) (by decide) ?_
        refine XS.iconst X65.here hx rfl (hb hby at_280) ?_
        refine XS.iadd X65.here hx rfl (hb hby at_281) rfl ?_
        show Steps p.tables e below (T65.setTop (mkF m 282 #[iv p0, iv p1, iv p2, iv p3, iv p4, iv p5, iv va, iv vb, iv vc, iv (1 : Int32), iv (p4 &&& (7 : Int32)), iv off, rv b59, iv (0 : Int32), iv (0 : Int32), iv (0 : Int32), .unset, .unset, .unset] [(.int ((0 : Int32) + (0 : Int32)))])) _
        rw [show ((0 : Int32) + (0 : Int32)) = (0 : Int32) from (by decide)]
        show Steps p.tables e below (T65.setTop (mkF m 282 #[iv p0, iv p1, iv p2, iv p3, iv p4, iv p5, iv va, iv vb, iv vc, iv (1 : Int32), iv (p4 &&& (7 : Int32)), iv off, rv b59, iv (0 : Int32), iv (0 : Int32), iv (0 : Int32), .unset, .unset, .unset] [(.int (0 : Int32))])) _
        refine XS.iload X65.here hx rfl (hb hby at_282) rfl ?_
        refine XS.ifYes X65.here hx rfl (pc0 := 284) (pc' := 291) rfl (hb hby at_284) rfl ((if0 _ _).trans (teq (by decide)).1) (by decide) (by decide) ?_
        refine XS.iconst X65.here hx rfl (hb hby at_291) ?_
        refine XS.iadd X65.here hx rfl (hb hby at_292) rfl ?_
        show Steps p.tables e below (T65.setTop (mkF m 293 #[iv p0, iv p1, iv p2, iv p3, iv p4, iv p5, iv va, iv vb, iv vc, iv (1 : Int32), iv (p4 &&& (7 : Int32)), iv off, rv b59, iv (0 : Int32), iv (0 : Int32), iv (0 : Int32), .unset, .unset, .unset] [(.int ((0 : Int32) + (0 : Int32)))])) _
        rw [show ((0 : Int32) + (0 : Int32)) = (0 : Int32) from (by decide)]
        show Steps p.tables e below (T65.setTop (mkF m 293 #[iv p0, iv p1, iv p2, iv p3, iv p4, iv p5, iv va, iv vb, iv vc, iv (1 : Int32), iv (p4 &&& (7 : Int32)), iv off, rv b59, iv (0 : Int32), iv (0 : Int32), iv (0 : Int32), .unset, .unset, .unset] [(.int (0 : Int32))])) _
        refine XS.istore X65.here hx rfl (hb hby at_293) rfl (l' := #[iv p0, iv p1, iv p2, iv p3, iv p4, iv p5, iv va, iv vb, iv vc, iv (1 : Int32), iv (p4 &&& (7 : Int32)), iv off, rv b59, iv (0 : Int32), iv (0 : Int32), iv (0 : Int32), iv (0 : Int32), .unset, .unset]) rfl ?_
        refine XS.iload X65.here hx rfl (hb hby at_295) rfl ?_
        refine XS.iconst X65.here hx rfl (hb hby at_297) ?_
        refine XS.iadd X65.here hx rfl (hb hby at_298) rfl ?_
        refine XS.istore X65.here hx rfl (hb hby at_299) rfl (l' := #[iv p0, iv p1, iv p2, iv p3, iv p4, iv p5, iv va, iv vb, iv vc, iv (1 : Int32), iv (p4 &&& (7 : Int32)), iv off, rv b59, iv (0 : Int32), iv (0 : Int32), iv (0 : Int32), iv (0 : Int32), iv (vc + (1 : Int32)), .unset]) rfl ?_
        show Steps p.tables e below (T65.setTop (mkF m 301 #[iv p0, iv p1, iv p2, iv p3, iv p4, iv p5, iv va, iv vb, iv vc, iv (1 : Int32), iv (p4 &&& (7 : Int32)), iv off, rv b59, iv (0 : Int32), iv (0 : Int32), iv (0 : Int32), iv (0 : Int32), iv (vc + (1 : Int32)), .unset] [])) _
        rw [← h_vt]
        show Steps p.tables e below (T65.setTop (mkF m 301 #[iv p0, iv p1, iv p2, iv p3, iv p4, iv p5, iv va, iv vb, iv vc, iv (1 : Int32), iv (p4 &&& (7 : Int32)), iv off, rv b59, iv (0 : Int32), iv (0 : Int32), iv (0 : Int32), iv (0 : Int32), iv vt, .unset] [])) _
        refine XS.aload X65.here hx rfl (hb hby at_301) rfl rfl ?_
        refine XS.iload X65.here hx rfl (hb hby at_303) rfl ?_
        refine XS.iload X65.here hx rfl (hb hby at_305) rfl ?_
        refine XS.iload X65.here hx rfl (hb hby at_307) rfl ?_
        refine XS.isub X65.here hx rfl (hb hby at_309) rfl ?_
        exact kt
      obtain ⟨cq87, kq87, q87a, q87b, q87c⟩ := isOf hZ rfl (((A59.keep Kc61).keep Kc63).keep Kc65)
      obtain ⟨_, _, ⟨T87, L87, k87, n87⟩, -, X87, ⟨Lc87, hQ87, l87, y87, z87⟩, st87⟩ := X65.virtualBack hx (y := (⟨"com/example/bytewright/bytewright/grid/ObjectStarts", "indexOf", "(II)I"⟩ : MethodName)) (z := (⟨"com/example/bytewright/bytewright/grid/ObjectStarts", "indexOf", "(II)I"⟩ : MethodName)) hown (mvT hZ (hw _ (List.mem_of_getElem? (i := 25) rfl))) (mvT hZ (hw _ (List.mem_of_getElem? (i := 26) rfl))) (notFace_of_selects (args := #[]) (mvT hZ (hw _ (List.mem_of_getElem? (i := 28) rfl)))) (mvT hZ (hw _ (List.mem_of_getElem? (i := 28) rfl))) (mvT hZ (hw _ (List.mem_of_getElem? (i := 27) rfl))) (by decide) (backOf (W := 0) (rm5c0 l Z a0 hw [] b59 vt (vt - va) ab61 kb61 va (0 : Int32) (0 : Int32) (0 : Int32) va T65.heap n0 (Nat.le_trans Z0 K65.1) Fo65 Fn65 (((A59.keep Kc61).keep Kc63).keep Kc65) Va65 hne61 (own_key vt va (by have := own_next vc vt h_vt (by omega); omega)).1 (own_key vt va (by have := own_next vc vt h_vt (by omega); omega)).2.1 (own_key vt va (by have := own_next vc vt h_vt (by omega); omega)).2.2) hZ (hw _ (List.mem_of_getElem? (i := 29) rfl)) (hw _ (List.mem_of_getElem? (i := 3) rfl)) (by decide) (by decide)) q87a q87c (g := (mkF m 310 #[iv p0, iv p1, iv p2, iv p3, iv p4, iv p5, iv va, iv vb, iv vc, iv (1 : Int32), iv (p4 &&& (7 : Int32)), iv off, rv b59, iv (0 : Int32), iv (0 : Int32), iv (0 : Int32), iv (0 : Int32), iv vt, .unset] [(.int (vt - va)), (.int vt), (.ref b59)])) rfl (by rw [hml]; rfl) (Steps.refl _) (argsL := [(.int vt), (.int (vt - va))]) (rest := []) (lenOf pd7 rfl) rfl (by show 2 * 0 + _ ≤ _; exact Nat.le_of_eq rfl) (hb hby at_310) (fun _ _ => ⟨rfl, rfl, (by decide : 2 + 0 ≤ _), (by decide : 18 + 0 ≤ _)⟩)
      dsimp only [Pt.U, Pt.locs, Pt.cells, Pt.slots] at X87 l87 y87 z87 st87 hQ87
      subst l87 y87 z87
      obtain ⟨rfl, N87q, hh87⟩ := hQ87
      have N87 := Fr.app N65 N87q
      have pre89 : ∀ t, Steps p.tables e below (T87.setTop (mkF m 323 #[iv p0, iv p1, iv p2, iv p3, iv p4, iv p5, iv va, iv vb, iv vc, iv (1 : Int32), iv (p4 &&& (7 : Int32)), iv off, rv b59, iv (0 : Int32), iv (0 : Int32), iv (0 : Int32), iv (0 : Int32), iv vt, .unset] [(.int (-1 : Int32)), (.int (own_ix0 va va (0 : Int32) (0 : Int32) (0 : Int32)))])) t → Steps p.tables e below (s₁.setTop (entryFrame m #[(.int p0), (.int p1), (.int p2), (.int p3), (.int p4), (.int p5)] maxLocals)) t := by
        intro t kt
        refine pre86 _ ?_
        show Steps p.tables e below (T65.setTop (mkF m 310 #[iv p0, iv p1, iv p2, iv p3, iv p4, iv p5, iv va, iv vb, iv vc, iv (1 : Int32), iv (p4 &&& (7 : Int32)), iv off, rv b59, iv (0 : Int32), iv (0 : Int32), iv (0 : Int32), iv (0 : Int32), iv vt, .unset] [(.int (vt - va)), (.int vt), (.ref b59)])) _
        refine st87.trans ?_
        show Steps p.tables e below (T87.setTop (mkF m 313 #[iv p0, iv p1, iv p2, iv p3, iv p4, iv p5, iv va, iv vb, iv vc, iv (1 : Int32), iv (p4 &&& (7 : Int32)), iv off, rv b59, iv (0 : Int32), iv (0 : Int32), iv (0 : Int32), iv (0 : Int32), iv vt, .unset] [(.int (own_ix0 va va (0 : Int32) (0 : Int32) (0 : Int32)))])) _
        refine XS.iload X87.here hx rfl (hb hby at_313) rfl ?_
        refine XS.ifYes X87.here hx rfl (pc0 := 315) (pc' := 322) rfl (hb hby at_315) rfl ((if0 _ _).trans (teq (by decide)).1) (by decide) (by decide) ?_
        refine XS.iconst X87.here hx rfl (hb hby at_322) ?_
        exact kt
      have hc323_88 : (own_ix0 va va (0 : Int32) (0 : Int32) (0 : Int32)) = (-1 : Int32) := by simp +decide [own_ix0, own_bs0, hab, hbc, hac, nba, ncb, nca, Int32.lt_irrefl]
      have pre90 : ∀ t, Steps p.tables e below (T87.setTop (mkF m 335 #[iv p0, iv p1, iv p2, iv p3, iv p4, iv p5, iv va, iv vb, iv vc, iv (1 : Int32), iv (p4 &&& (7 : Int32)), iv off, rv b59, iv (0 : Int32), iv (0 : Int32), iv (0 : Int32), iv (0 : Int32), iv vt, .unset] [(.int (vt - vb)), (.int vt), (.ref b59)])) t → Steps p.tables e below (s₁.setTop (entryFrame m #[(.int p0), (.int p1), (.int p2), (.int p3), (.int p4), (.int p5)] maxLocals)) t := by
        intro t kt
        refine pre89 _ ?_
        show Steps p.tables e below (T87.setTop (mkF m 323 #[iv p0, iv p1, iv p2, iv p3, iv p4, iv p5, iv va, iv vb, iv vc, iv (1 : Int32), iv (p4 &&& (7 : Int32)), iv off, rv b59, iv (0 : Int32), iv (0 : Int32), iv (0 : Int32), iv (0 : Int32), iv vt, .unset] [(.int (-1 : Int32)), (.int (own_ix0 va va (0 : Int32) (0 : Int32) (0 : Int32)))])) _
        refine XS.icmpNo X87.here hx rfl (hb hby at_323) rfl (teq hc323_88).2 ?_
        refine XS.aload X87.here hx rfl (hb hby at_326) rfl rfl ?_
        refine XS.iload X87.here hx rfl (hb hby at_328) rfl ?_
        refine XS.iload X87.here hx rfl (hb hby at_330) rfl ?_
        refine XS.iload X87.here hx rfl (hb hby at_332) rfl ?_
        refine XS.isub X87.here hx rfl (hb hby at_334) rfl ?_
        exact kt
      obtain ⟨cq91, kq91, q91a, q91b, q91c⟩ := isOf hZ hh87 (((A59.keep Kc61).keep Kc63).keep Kc65)
      obtain ⟨_, _, ⟨T91, L91, k91, n91⟩, -, X91, ⟨Lc91, hQ91, l91, y91, z91⟩, st91⟩ := X87.virtualBack hx (y := (⟨"com/example/bytewright/bytewright/grid/ObjectStarts", "indexOf", "(II)I"⟩ : MethodName)) (z := (⟨"com/example/bytewright/bytewright/grid/ObjectStarts", "indexOf", "(II)I"⟩ : MethodName)) hown (mvT hZ (hw _ (List.mem_of_getElem? (i := 25) rfl))) (mvT hZ (hw _ (List.mem_of_getElem? (i := 26) rfl))) (notFace_of_selects (args := #[]) (mvT hZ (hw _ (List.mem_of_getElem? (i := 28) rfl)))) (mvT hZ (hw _ (List.mem_of_getElem? (i := 28) rfl))) (mvT hZ (hw _ (List.mem_of_getElem? (i := 27) rfl))) (by decide) (backOf (W := 0) (rm5c0 l Z a0 hw [] b59 vt (vt - vb) ab61 kb61 va (0 : Int32) (0 : Int32) (0 : Int32) vb T65.heap n0 (Nat.le_trans Z0 K65.1) Fo65 Fn65 (((A59.keep Kc61).keep Kc63).keep Kc65) Va65 hne61 (own_key vt vb (by have := own_next vc vt h_vt (by omega); omega)).1 (own_key vt vb (by have := own_next vc vt h_vt (by omega); omega)).2.1 (own_key vt vb (by have := own_next vc vt h_vt (by omega); omega)).2.2) hZ (hw _ (List.mem_of_getElem? (i := 29) rfl)) (hw _ (List.mem_of_getElem? (i := 3) rfl)) (by decide) (by decide)) q91a q91c (g := (mkF m 335 #[iv p0, iv p1, iv p2, iv p3, iv p4, iv p5, iv va, iv vb, iv vc, iv (1 : Int32), iv (p4 &&& (7 : Int32)), iv off, rv b59, iv (0 : Int32), iv (0 : Int32), iv (0 : Int32), iv (0 : Int32), iv vt, .unset] [(.int (vt - vb)), (.int vt), (.ref b59)])) rfl (by rw [hml]; rfl) (Steps.refl _) (argsL := [(.int vt), (.int (vt - vb))]) (rest := []) (lenOf pd7 rfl) rfl (by show 2 * 0 + _ ≤ _; exact Nat.le_of_eq rfl) (hb hby at_335) (fun _ _ => ⟨rfl, hh87, (by decide : 2 + 0 ≤ _), (by decide : 18 + 0 ≤ _)⟩)
      dsimp only [Pt.U, Pt.locs, Pt.cells, Pt.slots] at X91 l91 y91 z91 st91 hQ91
      subst l91 y91 z91
      obtain ⟨rfl, N91q, hh91⟩ := hQ91
      have N91 := Fr.app N87 N91q
      have pre93 : ∀ t, Steps p.tables e below (T91.setTop (mkF m 348 #[iv p0, iv p1, iv p2, iv p3, iv p4, iv p5, iv va, iv vb, iv vc, iv (1 : Int32), iv (p4 &&& (7 : Int32)), iv off, rv b59, iv (0 : Int32), iv (0 : Int32), iv (0 : Int32), iv (0 : Int32), iv vt, .unset] [(.int (-1 : Int32)), (.int (own_ix0 vb va (0 : Int32) (0 : Int32) (0 : Int32)))])) t → Steps p.tables e below (s₁.setTop (entryFrame m #[(.int p0), (.int p1), (.int p2), (.int p3), (.int p4), (.int p5)] maxLocals)) t := by
        intro t kt
        refine pre90 _ ?_
        show Steps p.tables e below (T87.setTop (mkF m 335 #[iv p0, iv p1, iv p2, iv p3, iv p4, iv p5, iv va, iv vb, iv vc, iv (1 : Int32), iv (p4 &&& (7 : Int32)), iv off, rv b59, iv (0 : Int32), iv (0 : Int32), iv (0 : Int32), iv (0 : Int32), iv vt, .unset] [(.int (vt - vb)), (.int vt), (.ref b59)])) _
        refine st91.trans ?_
        show Steps p.tables e below (T91.setTop (mkF m 338 #[iv p0, iv p1, iv p2, iv p3, iv p4, iv p5, iv va, iv vb, iv vc, iv (1 : Int32), iv (p4 &&& (7 : Int32)), iv off, rv b59, iv (0 : Int32), iv (0 : Int32), iv (0 : Int32), iv (0 : Int32), iv vt, .unset] [(.int (own_ix0 vb va (0 : Int32) (0 : Int32) (0 : Int32)))])) _
        refine XS.iload X91.here hx rfl (hb hby at_338) rfl ?_
        refine XS.ifYes X91.here hx rfl (pc0 := 340) (pc' := 347) rfl (hb hby at_340) rfl ((if0 _ _).trans (teq (by decide)).1) (by decide) (by decide) ?_
        refine XS.iconst X91.here hx rfl (hb hby at_347) ?_
        exact kt
      have hc348_92 : (own_ix0 vb va (0 : Int32) (0 : Int32) (0 : Int32)) = (-1 : Int32) := by simp +decide [own_ix0, own_bs0, hab, hbc, hac, nba, ncb, nca, Int32.lt_irrefl]
      have pre94 : ∀ t, Steps p.tables e below (T91.setTop (mkF m 360 #[iv p0, iv p1, iv p2, iv p3, iv p4, iv p5, iv va, iv vb, iv vc, iv (1 : Int32), iv (p4 &&& (7 : Int32)), iv off, rv b59, iv (0 : Int32), iv (0 : Int32), iv (0 : Int32), iv (0 : Int32), iv vt, .unset] [(.int (vt - vc)), (.int vt), (.ref b59)])) t → Steps p.tables e below (s₁.setTop (entryFrame m #[(.int p0), (.int p1), (.int p2), (.int p3), (.int p4), (.int p5)] maxLocals)) t := by
        intro t kt
        refine pre93 _ ?_
        show Steps p.tables e below (T91.setTop (mkF m 348 #[iv p0, iv p1, iv p2, iv p3, iv p4, iv p5, iv va, iv vb, iv vc, iv (1 : Int32), iv (p4 &&& (7 : Int32)), iv off, rv b59, iv (0 : Int32), iv (0 : Int32), iv (0 : Int32), iv (0 : Int32), iv vt, .unset] [(.int (-1 : Int32)), (.int (own_ix0 vb va (0 : Int32) (0 : Int32) (0 : Int32)))])) _
        refine XS.icmpNo X91.here hx rfl (hb hby at_348) rfl (teq hc348_92).2 ?_
        refine XS.aload X91.here hx rfl (hb hby at_351) rfl rfl ?_
        refine XS.iload X91.here hx rfl (hb hby at_353) rfl ?_
        refine XS.iload X91.here hx rfl (hb hby at_355) rfl ?_
        refine XS.iload X91.here hx rfl (hb hby at_357) rfl ?_
        refine XS.isub X91.here hx rfl (hb hby at_359) rfl ?_
        exact kt
      obtain ⟨cq95, kq95, q95a, q95b, q95c⟩ := isOf hZ hh91 (((A59.keep Kc61).keep Kc63).keep Kc65)
      obtain ⟨_, _, ⟨T95, L95, k95, n95⟩, -, X95, ⟨Lc95, hQ95, l95, y95, z95⟩, st95⟩ := X91.virtualBack hx (y := (⟨"com/example/bytewright/bytewright/grid/ObjectStarts", "indexOf", "(II)I"⟩ : MethodName)) (z := (⟨"com/example/bytewright/bytewright/grid/ObjectStarts", "indexOf", "(II)I"⟩ : MethodName)) hown (mvT hZ (hw _ (List.mem_of_getElem? (i := 25) rfl))) (mvT hZ (hw _ (List.mem_of_getElem? (i := 26) rfl))) (notFace_of_selects (args := #[]) (mvT hZ (hw _ (List.mem_of_getElem? (i := 28) rfl)))) (mvT hZ (hw _ (List.mem_of_getElem? (i := 28) rfl))) (mvT hZ (hw _ (List.mem_of_getElem? (i := 27) rfl))) (by decide) (backOf (W := 0) (rm5c0 l Z a0 hw [] b59 vt (vt - vc) ab61 kb61 va (0 : Int32) (0 : Int32) (0 : Int32) vc T65.heap n0 (Nat.le_trans Z0 K65.1) Fo65 Fn65 (((A59.keep Kc61).keep Kc63).keep Kc65) Va65 hne61 (own_key vt vc (by have := own_next vc vt h_vt (by omega); omega)).1 (own_key vt vc (by have := own_next vc vt h_vt (by omega); omega)).2.1 (own_key vt vc (by have := own_next vc vt h_vt (by omega); omega)).2.2) hZ (hw _ (List.mem_of_getElem? (i := 29) rfl)) (hw _ (List.mem_of_getElem? (i := 3) rfl)) (by decide) (by decide)) q95a q95c (g := (mkF m 360 #[iv p0, iv p1, iv p2, iv p3, iv p4, iv p5, iv va, iv vb, iv vc, iv (1 : Int32), iv (p4 &&& (7 : Int32)), iv off, rv b59, iv (0 : Int32), iv (0 : Int32), iv (0 : Int32), iv (0 : Int32), iv vt, .unset] [(.int (vt - vc)), (.int vt), (.ref b59)])) rfl (by rw [hml]; rfl) (Steps.refl _) (argsL := [(.int vt), (.int (vt - vc))]) (rest := []) (lenOf pd7 rfl) rfl (by show 2 * 0 + _ ≤ _; exact Nat.le_of_eq rfl) (hb hby at_360) (fun _ _ => ⟨rfl, hh91, (by decide : 2 + 0 ≤ _), (by decide : 18 + 0 ≤ _)⟩)
      dsimp only [Pt.U, Pt.locs, Pt.cells, Pt.slots] at X95 l95 y95 z95 st95 hQ95
      subst l95 y95 z95
      obtain ⟨rfl, N95q, hh95⟩ := hQ95
      have N95 := Fr.app N91 N95q
      have pre97 : ∀ t, Steps p.tables e below (T95.setTop (mkF m 373 #[iv p0, iv p1, iv p2, iv p3, iv p4, iv p5, iv va, iv vb, iv vc, iv (1 : Int32), iv (p4 &&& (7 : Int32)), iv off, rv b59, iv (0 : Int32), iv (0 : Int32), iv (0 : Int32), iv (0 : Int32), iv vt, .unset] [(.int (-1 : Int32)), (.int (own_ix0 vc va (0 : Int32) (0 : Int32) (0 : Int32)))])) t → Steps p.tables e below (s₁.setTop (entryFrame m #[(.int p0), (.int p1), (.int p2), (.int p3), (.int p4), (.int p5)] maxLocals)) t := by
        intro t kt
        refine pre94 _ ?_
        show Steps p.tables e below (T91.setTop (mkF m 360 #[iv p0, iv p1, iv p2, iv p3, iv p4, iv p5, iv va, iv vb, iv vc, iv (1 : Int32), iv (p4 &&& (7 : Int32)), iv off, rv b59, iv (0 : Int32), iv (0 : Int32), iv (0 : Int32), iv (0 : Int32), iv vt, .unset] [(.int (vt - vc)), (.int vt), (.ref b59)])) _
        refine st95.trans ?_
        show Steps p.tables e below (T95.setTop (mkF m 363 #[iv p0, iv p1, iv p2, iv p3, iv p4, iv p5, iv va, iv vb, iv vc, iv (1 : Int32), iv (p4 &&& (7 : Int32)), iv off, rv b59, iv (0 : Int32), iv (0 : Int32), iv (0 : Int32), iv (0 : Int32), iv vt, .unset] [(.int (own_ix0 vc va (0 : Int32) (0 : Int32) (0 : Int32)))])) _
        refine XS.iload X95.here hx rfl (hb hby at_363) rfl ?_
        refine XS.ifYes X95.here hx rfl (pc0 := 365) (pc' := 372) rfl (hb hby at_365) rfl ((if0 _ _).trans (teq (by decide)).1) (by decide) (by decide) ?_
        refine XS.iconst X95.here hx rfl (hb hby at_372) ?_
        exact kt
      have hc373_96 : (own_ix0 vc va (0 : Int32) (0 : Int32) (0 : Int32)) = (-1 : Int32) := by simp +decide [own_ix0, own_bs0, hab, hbc, hac, nba, ncb, nca, Int32.lt_irrefl]
      have pre98 : ∀ t, Steps p.tables e below (T95.setTop (mkF m 392 #[iv p0, iv p1, iv p2, iv p3, iv p4, iv p5, iv va, iv vb, iv vc, iv (1 : Int32), iv (p4 &&& (7 : Int32)), iv off, rv b59, iv (0 : Int32), iv (0 : Int32), iv (0 : Int32), iv (0 : Int32), iv vt, iv (1 : Int32)] [(.int vt), (.ref b59)])) t → Steps p.tables e below (s₁.setTop (entryFrame m #[(.int p0), (.int p1), (.int p2), (.int p3), (.int p4), (.int p5)] maxLocals)) t := by
        intro t kt
        refine pre97 _ ?_
        show Steps p.tables e below (T95.setTop (mkF m 373 #[iv p0, iv p1, iv p2, iv p3, iv p4, iv p5, iv va, iv vb, iv vc, iv (1 : Int32), iv (p4 &&& (7 : Int32)), iv off, rv b59, iv (0 : Int32), iv (0 : Int32), iv (0 : Int32), iv (0 : Int32), iv vt, .unset] [(.int (-1 : Int32)), (.int (own_ix0 vc va (0 : Int32) (0 : Int32) (0 : Int32)))])) _
        refine XS.icmpNo X95.here hx rfl (hb hby at_373) rfl (teq hc373_96).2 ?_
        refine XS.iconst X95.here hx rfl (hb hby at_376) ?_
        refine XS.goto X95.here hx rfl (pc0 := 377) (pc' := 381) rfl (hb hby at_377) (by decide) (by decide) ?_
        refine XS.istore X95.here hx rfl (hb hby at_381) rfl (l' := #[iv p0, iv p1, iv p2, iv p3, iv p4, iv p5, iv va, iv vb, iv vc, iv (1 : Int32), iv (p4 &&& (7 : Int32)), iv off, rv b59, iv (0 : Int32), iv (0 : Int32), iv (0 : Int32), iv (0 : Int32), iv vt, iv (1 : Int32)]) rfl ?_
        refine XS.iload X95.here hx rfl (hb hby at_383) rfl ?_
        refine XS.ifNo X95.here hx rfl (hb hby at_385) rfl ((if0 _ _).trans (feq (by decide)).1) ?_
        refine XS.aload X95.here hx rfl (hb hby at_388) rfl rfl ?_
        refine XS.iload X95.here hx rfl (hb hby at_390) rfl ?_
        exact kt
      obtain ⟨cq99, kq99, q99a, q99b, q99c⟩ := isOf hZ hh95 (((A59.keep Kc61).keep Kc63).keep Kc65)
      obtain ⟨_, _, ⟨T99, L99, k99, n99⟩, -, X99, ⟨Lc99, hQ99, l99, y99, z99⟩, st99⟩ := X95.virtualBack hx (y := (⟨"com/example/bytewright/bytewright/grid/ObjectStarts", "add", "(I)I"⟩ : MethodName)) (z := (⟨"com/example/bytewright/bytewright/grid/ObjectStarts", "add", "(I)I"⟩ : MethodName)) hown (mvT hZ (hw _ (List.mem_of_getElem? (i := 13) rfl))) (mvT hZ (hw _ (List.mem_of_getElem? (i := 14) rfl))) (notFace_of_selects (args := #[]) (mvT hZ (hw _ (List.mem_of_getElem? (i := 16) rfl)))) (mvT hZ (hw _ (List.mem_of_getElem? (i := 16) rfl))) (mvT hZ (hw _ (List.mem_of_getElem? (i := 15) rfl))) (by decide) (backOf (W := 0) (rm3c0 l Z a0 hw [] b59 vt ab61 kb61 va (0 : Int32) (0 : Int32) (0 : Int32) T65.heap n0 (Nat.le_trans Z0 K65.1) Fo65 Fn65 (((A59.keep Kc61).keep Kc63).keep Kc65) g_b59 Va65 g_ab61 hne61) hZ (hw _ (List.mem_of_getElem? (i := 17) rfl)) (hw _ (List.mem_of_getElem? (i := 3) rfl)) (by decide) (by decide)) q99a q99c (g := (mkF m 392 #[iv p0, iv p1, iv p2, iv p3, iv p4, iv p5, iv va, iv vb, iv vc, iv (1 : Int32), iv (p4 &&& (7 : Int32)), iv off, rv b59, iv (0 : Int32), iv (0 : Int32), iv (0 : Int32), iv (0 : Int32), iv vt, iv (1 : Int32)] [(.int vt), (.ref b59)])) rfl (by rw [hml]; rfl) (Steps.refl _) (argsL := [(.int vt)]) (rest := []) (lenOf pd8 rfl) rfl (by show 2 * 0 + _ ≤ _; exact Nat.le_of_eq rfl) (hb hby at_392) (fun _ _ => ⟨rfl, hh95, (by decide : 2 + 0 ≤ _), (by decide : 18 + 0 ≤ _)⟩)
      dsimp only [Pt.U, Pt.locs, Pt.cells, Pt.slots] at X99 l99 y99 z99 st99 hQ99
      subst l99 y99 z99
      obtain ⟨rfl, N99q, Kc99, Fo99, Fn99, Va99⟩ := hQ99
      have N99 := Fr.app N95 N99q
      have K99 : Keep h0 T99.heap [] := K65.trans Kc99 (allS (Or.inr sz_b59) (allS (Or.inr sz_ab61) all0))
      have pre100 : ∀ t, Steps p.tables e below (T99.setTop (mkF m 405 #[iv p0, iv p1, iv p2, iv p3, iv p4, iv p5, iv va, iv vb, iv vc, iv (1 : Int32), iv (p4 &&& (7 : Int32)), iv off, rv b59, iv (0 : Int32), iv (0 : Int32), iv (0 : Int32), iv (0 : Int32), iv vt, iv (1 : Int32)] [(.int (1 : Int32))])) t → Steps p.tables e below (s₁.setTop (entryFrame m #[(.int p0), (.int p1), (.int p2), (.int p3), (.int p4), (.int p5)] maxLocals)) t := by
        intro t kt
        refine pre98 _ ?_
        show Steps p.tables e below (T95.setTop (mkF m 392 #[iv p0, iv p1, iv p2, iv p3, iv p4, iv p5, iv va, iv vb, iv vc, iv (1 : Int32), iv (p4 &&& (7 : Int32)), iv off, rv b59, iv (0 : Int32), iv (0 : Int32), iv (0 : Int32), iv (0 : Int32), iv vt, iv (1 : Int32)] [(.int vt), (.ref b59)])) _
        refine st99.trans ?_
        show Steps p.tables e below (T99.setTop (mkF m 395 #[iv p0, iv p1, iv p2, iv p3, iv p4, iv p5, iv va, iv vb, iv vc, iv (1 : Int32), iv (p4 &&& (7 : Int32)), iv off, rv b59, iv (0 : Int32), iv (0 : Int32), iv (0 : Int32), iv (0 : Int32), iv vt, iv (1 : Int32)] [(.int (0 : Int32))])) _
        refine XS.iload X99.here hx rfl (hb hby at_395) rfl ?_
        refine XS.icmpNo X99.here hx rfl (hb hby at_397) rfl (teq (by decide)).2 ?_
        refine XS.iconst X99.here hx rfl (hb hby at_400) ?_
        refine XS.goto X99.here hx rfl (pc0 := 401) (pc' := 405) rfl (hb hby at_401) (by decide) (by decide) ?_
        exact kt
      obtain ⟨fs, hr, hrun, hended, hW, hsame⟩ := X99.leave (v := some (.int (1 : Int32))) (fun h => by rw [Bd.returns] at h; cases h)
      refine ⟨_, _, pre100 _ ?_, hrun, hended, _, _, rfl, ?_, ⟨_, rfl⟩, hW, hsame.mono (by decide) (by decide)⟩
      · show Steps p.tables e below (T99.setTop (mkF m 405 #[iv p0, iv p1, iv p2, iv p3, iv p4, iv p5, iv va, iv vb, iv vc, iv (1 : Int32), iv (p4 &&& (7 : Int32)), iv off, rv b59, iv (0 : Int32), iv (0 : Int32), iv (0 : Int32), iv (0 : Int32), iv vt, iv (1 : Int32)] [(.int (1 : Int32))])) _
        exact retN X99 hx (t := .boolean) Bd.returns (by simp) (hb hby at_405) hr
      · show Q0 Z p0 p1 p2 p3 p4 p5 h0 n0 _ T99.heap _
        exact ⟨rfl, N99⟩
  · have pre101 : ∀ t, Steps p.tables e below (s₁.setTop (mkF m 41 #[iv p0, iv p1, iv p2, iv p3, iv p4, iv p5, iv va, iv vb, iv vc, iv (2 : Int32), iv (p4 &&& (7 : Int32)), .unset, .unset, .unset, .unset, .unset, .unset, .unset, .unset] [])) t → Steps p.tables e below (s₁.setTop (entryFrame m #[(.int p0), (.int p1), (.int p2), (.int p3), (.int p4), (.int p5)] maxLocals)) t := by
      intro t kt
      refine pre1 _ ?_
      show Steps p.tables e below (s₁.setTop (mkF m 34 #[iv p0, iv p1, iv p2, iv p3, iv p4, iv p5, iv va, iv vb, iv vc, iv (p5 &&& (3 : Int32)), .unset, .unset, .unset, .unset, .unset, .unset, .unset, .unset, .unset] [])) _
      rw [h4]
      show Steps p.tables e below (s₁.setTop (mkF m 34 #[iv p0, iv p1, iv p2, iv p3, iv p4, iv p5, iv va, iv vb, iv vc, iv (2 : Int32), .unset, .unset, .unset, .unset, .unset, .unset, .unset, .unset, .unset] [])) _
      refine XS.iload X0.here hx rfl (hb hby at_34) rfl ?_
      refine XS.bipush X0.here hx rfl (hb hby at_36) ?_
      refine XS.iand X0.here hx rfl (hb hby at_38) rfl ?_
      refine XS.istore X0.here hx rfl (hb hby at_39) rfl (l' := #[iv p0, iv p1, iv p2, iv p3, iv p4, iv p5, iv va, iv vb, iv vc, iv (2 : Int32), iv (p4 &&& (7 : Int32)), .unset, .unset, .unset, .unset, .unset, .unset, .unset, .unset]) rfl ?_
      exact kt
    obtain ⟨off, hj118, pre118⟩ : ∃ (off : Int32), (True) ∧ ∀ t, Steps p.tables e below (s₁.setTop (mkF m 143 #[iv p0, iv p1, iv p2, iv p3, iv p4, iv p5, iv va, iv vb, iv vc, iv (2 : Int32), iv (p4 &&& (7 : Int32)), iv off, .unset, .unset, .unset, .unset, .unset, .unset, .unset] [])) t → Steps p.tables e below (s₁.setTop (entryFrame m #[(.int p0), (.int p1), (.int p2), (.int p3), (.int p4), (.int p5)] maxLocals)) t := by
      have pre102 : ∀ t, Steps p.tables e below (s₁.setTop (mkF m 43 #[iv p0, iv p1, iv p2, iv p3, iv p4, iv p5, iv va, iv vb, iv vc, iv (2 : Int32), iv (p4 &&& (7 : Int32)), .unset, .unset, .unset, .unset, .unset, .unset, .unset, .unset] [(.int (p4 &&& (7 : Int32)))])) t → Steps p.tables e below (s₁.setTop (entryFrame m #[(.int p0), (.int p1), (.int p2), (.int p3), (.int p4), (.int p5)] maxLocals)) t := by
        intro t kt
        refine pre101 _ ?_
        show Steps p.tables e below (s₁.setTop (mkF m 41 #[iv p0, iv p1, iv p2, iv p3, iv p4, iv p5, iv va, iv vb, iv vc, iv (2 : Int32), iv (p4 &&& (7 : Int32)), .unset, .unset, .unset, .unset, .unset, .unset, .unset, .unset] [])) _
        refine XS.iload X0.here hx rfl (hb hby at_41) rfl ?_
        exact kt
      by_cases hc43 : (p4 &&& (7 : Int32)) = (0 : Int32)
      · have pre103 : ∀ t, Steps p.tables e below (s₁.setTop (mkF m 143 #[iv p0, iv p1, iv p2, iv p3, iv p4, iv p5, iv va, iv vb, iv vc, iv (2 : Int32), iv (p4 &&& (7 : Int32)), iv p3, .unset, .unset, .unset, .unset, .unset, .unset, .unset] [])) t → Steps p.tables e below (s₁.setTop (entryFrame m #[(.int p0), (.int p1), (.int p2), (.int p3), (.int p4), (.int p5)] maxLocals)) t := by
          intro t kt
          refine pre102 _ ?_
          show Steps p.tables e below (s₁.setTop (mkF m 43 #[iv p0, iv p1, iv p2, iv p3, iv p4, iv p5, iv va, iv vb, iv vc, iv (2 : Int32), iv (p4 &&& (7 : Int32)), .unset, .unset, .unset, .unset, .unset, .unset, .unset, .unset] [(.int (p4 &&& (7 : Int32)))])) _
          refine XS.ifNo X0.here hx rfl (hb hby at_43) rfl ((if0 _ _).trans (teq hc43).2) ?_
          refine XS.iloadN X0.here hx rfl (hb hby at_46) rfl ?_
          refine XS.istore X0.here hx rfl (hb hby at_47) rfl (l' := #[iv p0, iv p1, iv p2, iv p3, iv p4, iv p5, iv va, iv vb, iv vc, iv (2 : Int32), iv (p4 &&& (7 : Int32)), iv p3, .unset, .unset, .unset, .unset, .unset, .unset, .unset]) rfl ?_
          refine XS.goto X0.here hx rfl (pc0 := 49) (pc' := 143) rfl (hb hby at_49) (by decide) (by decide) ?_
          exact kt
        exact ⟨p3, trivial, pre103⟩
      · have pre104 : ∀ t, Steps p.tables e below (s₁.setTop (mkF m 55 #[iv p0, iv p1, iv p2, iv p3, iv p4, iv p5, iv va, iv vb, iv vc, iv (2 : Int32), iv (p4 &&& (7 : Int32)), .unset, .unset, .unset, .unset, .unset, .unset, .unset, .unset] [(.int (1 : Int32)), (.int (p4 &&& (7 : Int32)))])) t → Steps p.tables e below (s₁.setTop (entryFrame m #[(.int p0), (.int p1), (.int p2), (.int p3), (.int p4), (.int p5)] maxLocals)) t := by
          intro t kt
          refine pre102 _ ?_
          show Steps p.tables e below (s₁.setTop (mkF m 43 #[iv p0, iv p1, iv p2, iv p3, iv p4, iv p5, iv va, iv vb, iv vc, iv (2 : Int32), iv (p4 &&& (7 : Int32)), .unset, .unset, .unset, .unset, .unset, .unset, .unset, .unset] [(.int (p4 &&& (7 : Int32)))])) _
          refine XS.ifYes X0.here hx rfl (pc0 := 43) (pc' := 52) rfl (hb hby at_43) rfl ((if0 _ _).trans (feq hc43).2) (by decide) (by decide) ?_
          refine XS.iload X0.here hx rfl (hb hby at_52) rfl ?_
          refine XS.iconst X0.here hx rfl (hb hby at_54) ?_
          exact kt
        by_cases hc55 : (p4 &&& (7 : Int32)) = (1 : Int32)
        · have pre105 : ∀ t, Steps p.tables e below (s₁.setTop (mkF m 143 #[iv p0, iv p1, iv p2, iv p3, iv p4, iv p5, iv va, iv vb, iv vc, iv (2 : Int32), iv (p4 &&& (7 : Int32)), iv va, .unset, .unset, .unset, .unset, .unset, .unset, .unset] [])) t → Steps p.tables e below (s₁.setTop (entryFrame m #[(.int p0), (.int p1), (.int p2), (.int p3), (.int p4), (.int p5)] maxLocals)) t := by
            intro t kt
            refine pre104 _ ?_
            show Steps p.tables e below (s₁.setTop (mkF m 55 #[iv p0, iv p1, iv p2, iv p3, iv p4, iv p5, iv va, iv vb, iv vc, iv (2 : Int32), iv (p4 &&& (7 : Int32)), .unset, .unset, .unset, .unset, .unset, .unset, .unset, .unset] [(.int (1 : Int32)), (.int (p4 &&& (7 : Int32)))])) _
            refine XS.icmpNo X0.here hx rfl (hb hby at_55) rfl (teq hc55).2 ?_
            refine XS.iload X0.here hx rfl (hb hby at_58) rfl ?_
            refine XS.istore X0.here hx rfl (hb hby at_60) rfl (l' := #[iv p0, iv p1, iv p2, iv p3, iv p4, iv p5, iv va, iv vb, iv vc, iv (2 : Int32), iv (p4 &&& (7 : Int32)), iv va, .unset, .unset, .unset, .unset, .unset, .unset, .unset]) rfl ?_
            refine XS.goto X0.here hx rfl (pc0 := 62) (pc' := 143) rfl (hb hby at_62) (by decide) (by decide) ?_
            exact kt
          exact ⟨va, trivial, pre105⟩
        · have pre106 : ∀ t, Steps p.tables e below (s₁.setTop (mkF m 68 #[iv p0, iv p1, iv p2, iv p3, iv p4, iv p5, iv va, iv vb, iv vc, iv (2 : Int32), iv (p4 &&& (7 : Int32)), .unset, .unset, .unset, .unset, .unset, .unset, .unset, .unset] [(.int (2 : Int32)), (.int (p4 &&& (7 : Int32)))])) t → Steps p.tables e below (s₁.setTop (entryFrame m #[(.int p0), (.int p1), (.int p2), (.int p3), (.int p4), (.int p5)] maxLocals)) t := by
            intro t kt
            refine pre104 _ ?_
            show Steps p.tables e below (s₁.setTop (mkF m 55 #[iv p0, iv p1, iv p2, iv p3, iv p4, iv p5, iv va, iv vb, iv vc, iv (2 : Int32), iv (p4 &&& (7 : Int32)), .unset, .unset, .unset, .unset, .unset, .unset, .unset, .unset] [(.int (1 : Int32)), (.int (p4 &&& (7 : Int32)))])) _
            refine XS.icmpYes X0.here hx rfl (pc0 := 55) (pc' := 65) rfl (hb hby at_55) rfl (feq hc55).2 (by decide) (by decide) ?_
            refine XS.iload X0.here hx rfl (hb hby at_65) rfl ?_
            refine XS.iconst X0.here hx rfl (hb hby at_67) ?_
            exact kt
          by_cases hc68 : (p4 &&& (7 : Int32)) = (2 : Int32)
          · have pre107 : ∀ t, Steps p.tables e below (s₁.setTop (mkF m 143 #[iv p0, iv p1, iv p2, iv p3, iv p4, iv p5, iv va, iv vb, iv vc, iv (2 : Int32), iv (p4 &&& (7 : Int32)), iv (va + (1 : Int32)), .unset, .unset, .unset, .unset, .unset, .unset, .unset] [])) t → Steps p.tables e below (s₁.setTop (entryFrame m #[(.int p0), (.int p1), (.int p2), (.int p3), (.int p4), (.int p5)] maxLocals)) t := by
              intro t kt
              refine pre106 _ ?_
              show Steps p.tables e below (s₁.setTop (mkF m 68 #[iv p0, iv p1, iv p2, iv p3, iv p4, iv p5, iv va, iv vb, iv vc, iv (2 : Int32), iv (p4 &&& (7 : Int32)), .unset, .unset, .unset, .unset, .unset, .unset, .unset, .unset] [(.int (2 : Int32)), (.int (p4 &&& (7 : Int32)))])) _
              refine XS.icmpNo X0.here hx rfl (hb hby at_68) rfl (teq hc68).2 ?_
              refine XS.iload X0.here hx rfl (hb hby at_71) rfl ?_
              refine XS.iconst X0.here hx rfl (hb hby at_73) ?_
              refine XS.iadd X0.here hx rfl (hb hby at_74) rfl ?_
              refine XS.istore X0.here hx rfl (hb hby at_75) rfl (l' := #[iv p0, iv p1, iv p2, iv p3, iv p4, iv p5, iv va, iv vb, iv vc, iv (2 : Int32), iv (p4 &&& (7 : Int32)), iv (va + (1 : Int32)), .unset, .unset, .unset, .unset, .unset, .unset, .unset]) rfl ?_
              refine XS.goto X0.here hx rfl (pc0 := 77) (pc' := 143) rfl (hb hby at_77) (by decide) (by decide) ?_
              exact kt
            exact ⟨(va + (1 : Int32)), trivial, pre107⟩
          · have pre108 : ∀ t, Steps p.tables e below (s₁.setTop (mkF m 83 #[iv p0, iv p1, iv p2, iv p3, iv p4, iv p5, iv va, iv vb, iv vc, iv (2 : Int32), iv (p4 &&& (7 : Int32)), .unset, .unset, .unset, .unset, .unset, .unset, .unset, .unset] [(.int (3 : Int32)), (.int (p4 &&& (7 : Int32)))])) t → Steps p.tables e below (s₁.setTop (entryFrame m #[(.int p0), (.int p1), (.int p2), (.int p3), (.int p4), (.int p5)] maxLocals)) t := by
              intro t kt
              refine pre106 _ ?_
              show Steps p.tables e below (s₁.setTop (mkF m 68 #[iv p0, iv p1, iv p2, iv p3, iv p4, iv p5, iv va, iv vb, iv vc, iv (2 : Int32), iv (p4 &&& (7 : Int32)), .unset, .unset, .unset, .unset, .unset, .unset, .unset, .unset] [(.int (2 : Int32)), (.int (p4 &&& (7 : Int32)))])) _
              refine XS.icmpYes X0.here hx rfl (pc0 := 68) (pc' := 80) rfl (hb hby at_68) rfl (feq hc68).2 (by decide) (by decide) ?_
              refine XS.iload X0.here hx rfl (hb hby at_80) rfl ?_
              refine XS.iconst X0.here hx rfl (hb hby at_82) ?_
              exact kt
            by_cases hc83 : (p4 &&& (7 : Int32)) = (3 : Int32)
            · have pre109 : ∀ t, Steps p.tables e below (s₁.setTop (mkF m 143 #[iv p0, iv p1, iv p2, iv p3, iv p4, iv p5, iv va, iv vb, iv vc, iv (2 : Int32), iv (p4 &&& (7 : Int32)), iv vb, .unset, .unset, .unset, .unset, .unset, .unset, .unset] [])) t → Steps p.tables e below (s₁.setTop (entryFrame m #[(.int p0), (.int p1), (.int p2), (.int p3), (.int p4), (.int p5)] maxLocals)) t := by
                intro t kt
                refine pre108 _ ?_
                show Steps p.tables e below (s₁.setTop (mkF m 83 #[iv p0, iv p1, iv p2, iv p3, iv p4, iv p5, iv va, iv vb, iv vc, iv (2 : Int32), iv (p4 &&& (7 : Int32)), .unset, .unset, .unset, .unset, .unset, .unset, .unset, .unset] [(.int (3 : Int32)), (.int (p4 &&& (7 : Int32)))])) _
                refine XS.icmpNo X0.here hx rfl (hb hby at_83) rfl (teq hc83).2 ?_
                refine XS.iload X0.here hx rfl (hb hby at_86) rfl ?_
                refine XS.istore X0.here hx rfl (hb hby at_88) rfl (l' := #[iv p0, iv p1, iv p2, iv p3, iv p4, iv p5, iv va, iv vb, iv vc, iv (2 : Int32), iv (p4 &&& (7 : Int32)), iv vb, .unset, .unset, .unset, .unset, .unset, .unset, .unset]) rfl ?_
                refine XS.goto X0.here hx rfl (pc0 := 90) (pc' := 143) rfl (hb hby at_90) (by decide) (by decide) ?_
                exact kt
              exact ⟨vb, trivial, pre109⟩
            · have pre110 : ∀ t, Steps p.tables e below (s₁.setTop (mkF m 96 #[iv p0, iv p1, iv p2, iv p3, iv p4, iv p5, iv va, iv vb, iv vc, iv (2 : Int32), iv (p4 &&& (7 : Int32)), .unset, .unset, .unset, .unset, .unset, .unset, .unset, .unset] [(.int (4 : Int32)), (.int (p4 &&& (7 : Int32)))])) t → Steps p.tables e below (s₁.setTop (entryFrame m #[(.int p0), (.int p1), (.int p2), (.int p3), (.int p4), (.int p5)] maxLocals)) t := by
                intro t kt
                refine pre108 _ ?_
                show Steps p.tables e below (s₁.setTop (mkF m 83 #[iv p0, iv p1, iv p2, iv p3, iv p4, iv p5, iv va, iv vb, iv vc, iv (2 : Int32), iv (p4 &&& (7 : Int32)), .unset, .unset, .unset, .unset, .unset, .unset, .unset, .unset] [(.int (3 : Int32)), (.int (p4 &&& (7 : Int32)))])) _
                refine XS.icmpYes X0.here hx rfl (pc0 := 83) (pc' := 93) rfl (hb hby at_83) rfl (feq hc83).2 (by decide) (by decide) ?_
                refine XS.iload X0.here hx rfl (hb hby at_93) rfl ?_
                refine XS.iconst X0.here hx rfl (hb hby at_95) ?_
                exact kt
              by_cases hc96 : (p4 &&& (7 : Int32)) = (4 : Int32)
              · have pre111 : ∀ t, Steps p.tables e below (s₁.setTop (mkF m 143 #[iv p0, iv p1, iv p2, iv p3, iv p4, iv p5, iv va, iv vb, iv vc, iv (2 : Int32), iv (p4 &&& (7 : Int32)), iv (vb + (1 : Int32)), .unset, .unset, .unset, .unset, .unset, .unset, .unset] [])) t → Steps p.tables e below (s₁.setTop (entryFrame m #[(.int p0), (.int p1), (.int p2), (.int p3), (.int p4), (.int p5)] maxLocals)) t := by
                  intro t kt
                  refine pre110 _ ?_
                  show Steps p.tables e below (s₁.setTop (mkF m 96 #[iv p0, iv p1, iv p2, iv p3, iv p4, iv p5, iv va, iv vb, iv vc, iv (2 : Int32), iv (p4 &&& (7 : Int32)), .unset, .unset, .unset, .unset, .unset, .unset, .unset, .unset] [(.int (4 : Int32)), (.int (p4 &&& (7 : Int32)))])) _
                  refine XS.icmpNo X0.here hx rfl (hb hby at_96) rfl (teq hc96).2 ?_
                  refine XS.iload X0.here hx rfl (hb hby at_99) rfl ?_
                  refine XS.iconst X0.here hx rfl (hb hby at_101) ?_
                  refine XS.iadd X0.here hx rfl (hb hby at_102) rfl ?_
                  refine XS.istore X0.here hx rfl (hb hby at_103) rfl (l' := #[iv p0, iv p1, iv p2, iv p3, iv p4, iv p5, iv va, iv vb, iv vc, iv (2 : Int32), iv (p4 &&& (7 : Int32)), iv (vb + (1 : Int32)), .unset, .unset, .unset, .unset, .unset, .unset, .unset]) rfl ?_
                  refine XS.goto X0.here hx rfl (pc0 := 105) (pc' := 143) rfl (hb hby at_105) (by decide) (by decide) ?_
                  exact kt
                exact ⟨(vb + (1 : Int32)), trivial, pre111⟩
              · have pre112 : ∀ t, Steps p.tables e below (s₁.setTop (mkF m 111 #[iv p0, iv p1, iv p2, iv p3, iv p4, iv p5, iv va, iv vb, iv vc, iv (2 : Int32), iv (p4 &&& (7 : Int32)), .unset, .unset, .unset, .unset, .unset, .unset, .unset, .unset] [(.int (5 : Int32)), (.int (p4 &&& (7 : Int32)))])) t → Steps p.tables e below (s₁.setTop (entryFrame m #[(.int p0), (.int p1), (.int p2), (.int p3), (.int p4), (.int p5)] maxLocals)) t := by
                  intro t kt
                  refine pre110 _ ?_
                  show Steps p.tables e below (s₁.setTop (mkF m 96 #[iv p0, iv p1, iv p2, iv p3, iv p4, iv p5, iv va, iv vb, iv vc, iv (2 : Int32), iv (p4 &&& (7 : Int32)), .unset, .unset, .unset, .unset, .unset, .unset, .unset, .unset] [(.int (4 : Int32)), (.int (p4 &&& (7 : Int32)))])) _
                  refine XS.icmpYes X0.here hx rfl (pc0 := 96) (pc' := 108) rfl (hb hby at_96) rfl (feq hc96).2 (by decide) (by decide) ?_
                  refine XS.iload X0.here hx rfl (hb hby at_108) rfl ?_
                  refine XS.iconst X0.here hx rfl (hb hby at_110) ?_
                  exact kt
                by_cases hc111 : (p4 &&& (7 : Int32)) = (5 : Int32)
                · have pre113 : ∀ t, Steps p.tables e below (s₁.setTop (mkF m 143 #[iv p0, iv p1, iv p2, iv p3, iv p4, iv p5, iv va, iv vb, iv vc, iv (2 : Int32), iv (p4 &&& (7 : Int32)), iv vc, .unset, .unset, .unset, .unset, .unset, .unset, .unset] [])) t → Steps p.tables e below (s₁.setTop (entryFrame m #[(.int p0), (.int p1), (.int p2), (.int p3), (.int p4), (.int p5)] maxLocals)) t := by
                    intro t kt
                    refine pre112 _ ?_
                    show Steps p.tables e below (s₁.setTop (mkF m 111 #[iv p0, iv p1, iv p2, iv p3, iv p4, iv p5, iv va, iv vb, iv vc, iv (2 : Int32), iv (p4 &&& (7 : Int32)), .unset, .unset, .unset, .unset, .unset, .unset, .unset, .unset] [(.int (5 : Int32)), (.int (p4 &&& (7 : Int32)))])) _
                    refine XS.icmpNo X0.here hx rfl (hb hby at_111) rfl (teq hc111).2 ?_
                    refine XS.iload X0.here hx rfl (hb hby at_114) rfl ?_
                    refine XS.istore X0.here hx rfl (hb hby at_116) rfl (l' := #[iv p0, iv p1, iv p2, iv p3, iv p4, iv p5, iv va, iv vb, iv vc, iv (2 : Int32), iv (p4 &&& (7 : Int32)), iv vc, .unset, .unset, .unset, .unset, .unset, .unset, .unset]) rfl ?_
                    refine XS.goto X0.here hx rfl (pc0 := 118) (pc' := 143) rfl (hb hby at_118) (by decide) (by decide) ?_
                    exact kt
                  exact ⟨vc, trivial, pre113⟩
                · have pre114 : ∀ t, Steps p.tables e below (s₁.setTop (mkF m 125 #[iv p0, iv p1, iv p2, iv p3, iv p4, iv p5, iv va, iv vb, iv vc, iv (2 : Int32), iv (p4 &&& (7 : Int32)), .unset, .unset, .unset, .unset, .unset, .unset, .unset, .unset] [(.int (6 : Int32)), (.int (p4 &&& (7 : Int32)))])) t → Steps p.tables e below (s₁.setTop (entryFrame m #[(.int p0), (.int p1), (.int p2), (.int p3), (.int p4), (.int p5)] maxLocals)) t := by
                    intro t kt
                    refine pre112 _ ?_
                    show Steps p.tables e below (s₁.setTop (mkF m 111 #[iv p0, iv p1, iv p2, iv p3, iv p4, iv p5, iv va, iv vb, iv vc, iv (2 : Int32), iv (p4 &&& (7 : Int32)), .unset, .unset, .unset, .unset, .unset, .unset, .unset, .unset] [(.int (5 : Int32)), (.int (p4 &&& (7 : Int32)))])) _
                    refine XS.icmpYes X0.here hx rfl (pc0 := 111) (pc' := 121) rfl (hb hby at_111) rfl (feq hc111).2 (by decide) (by decide) ?_
                    refine XS.iload X0.here hx rfl (hb hby at_121) rfl ?_
                    refine XS.bipush X0.here hx rfl (hb hby at_123) ?_
                    exact kt
                  by_cases hc125 : (p4 &&& (7 : Int32)) = (6 : Int32)
                  · have pre115 : ∀ t, Steps p.tables e below (s₁.setTop (mkF m 143 #[iv p0, iv p1, iv p2, iv p3, iv p4, iv p5, iv va, iv vb, iv vc, iv (2 : Int32), iv (p4 &&& (7 : Int32)), iv (vc + (1 : Int32)), .unset, .unset, .unset, .unset, .unset, .unset, .unset] [])) t → Steps p.tables e below (s₁.setTop (entryFrame m #[(.int p0), (.int p1), (.int p2), (.int p3), (.int p4), (.int p5)] maxLocals)) t := by
                      intro t kt
                      refine pre114 _ ?_
                      show Steps p.tables e below (s₁.setTop (mkF m 125 #[iv p0, iv p1, iv p2, iv p3, iv p4, iv p5, iv va, iv vb, iv vc, iv (2 : Int32), iv (p4 &&& (7 : Int32)), .unset, .unset, .unset, .unset, .unset, .unset, .unset, .unset] [(.int (6 : Int32)), (.int (p4 &&& (7 : Int32)))])) _
                      refine XS.icmpNo X0.here hx rfl (hb hby at_125) rfl (teq hc125).2 ?_
                      refine XS.iload X0.here hx rfl (hb hby at_128) rfl ?_
                      refine XS.iconst X0.here hx rfl (hb hby at_130) ?_
                      refine XS.iadd X0.here hx rfl (hb hby at_131) rfl ?_
                      refine XS.istore X0.here hx rfl (hb hby at_132) rfl (l' := #[iv p0, iv p1, iv p2, iv p3, iv p4, iv p5, iv va, iv vb, iv vc, iv (2 : Int32), iv (p4 &&& (7 : Int32)), iv (vc + (1 : Int32)), .unset, .unset, .unset, .unset, .unset, .unset, .unset]) rfl ?_
                      refine XS.goto X0.here hx rfl (pc0 := 134) (pc' := 143) rfl (hb hby at_134) (by decide) (by decide) ?_
                      exact kt
                    exact ⟨(vc + (1 : Int32)), trivial, pre115⟩
                  · have pre116 : ∀ t, Steps p.tables e below (s₁.setTop (mkF m 143 #[iv p0, iv p1, iv p2, iv p3, iv p4, iv p5, iv va, iv vb, iv vc, iv (2 : Int32), iv (p4 &&& (7 : Int32)), iv (vc - (1 : Int32)), .unset, .unset, .unset, .unset, .unset, .unset, .unset] [])) t → Steps p.tables e below (s₁.setTop (entryFrame m #[(.int p0), (.int p1), (.int p2), (.int p3), (.int p4), (.int p5)] maxLocals)) t := by
                      intro t kt
                      refine pre114 _ ?_
                      show Steps p.tables e below (s₁.setTop (mkF m 125 #[iv p0, iv p1, iv p2, iv p3, iv p4, iv p5, iv va, iv vb, iv vc, iv (2 : Int32), iv (p4 &&& (7 : Int32)), .unset, .unset, .unset, .unset, .unset, .unset, .unset, .unset] [(.int (6 : Int32)), (.int (p4 &&& (7 : Int32)))])) _
                      refine XS.icmpYes X0.here hx rfl (pc0 := 125) (pc' := 137) rfl (hb hby at_125) rfl (feq hc125).2 (by decide) (by decide) ?_
                      refine XS.iload X0.here hx rfl (hb hby at_137) rfl ?_
                      refine XS.iconst X0.here hx rfl (hb hby at_139) ?_
                      refine XS.isub X0.here hx rfl (hb hby at_140) rfl ?_
                      refine XS.istore X0.here hx rfl (hb hby at_141) rfl (l' := #[iv p0, iv p1, iv p2, iv p3, iv p4, iv p5, iv va, iv vb, iv vc, iv (2 : Int32), iv (p4 &&& (7 : Int32)), iv (vc - (1 : Int32)), .unset, .unset, .unset, .unset, .unset, .unset, .unset]) rfl ?_
                      exact kt
                    exact ⟨(vc - (1 : Int32)), trivial, pre116⟩
    obtain ⟨T119, h119, X119, e119, E119, A119, D119, -, st119⟩ := newO X0 hx hZ hown (hw _ (List.mem_of_getElem? (i := 1) rfl)) (hw _ (List.mem_of_getElem? (i := 2) rfl)) (hw _ (List.mem_of_getElem? (i := 3) rfl)) e0 (g := (mkF m 143 #[iv p0, iv p1, iv p2, iv p3, iv p4, iv p5, iv va, iv vb, iv vc, iv (2 : Int32), iv (p4 &&& (7 : Int32)), iv off, .unset, .unset, .unset, .unset, .unset, .unset, .unset] [])) rfl (hb hby at_143) (by decide) (by decide)
    obtain ⟨b119, g119⟩ : ∃ z, z = h0.size := ⟨_, rfl⟩
    rw [← g119] at A119 D119 st119
    have g_b119 : n0 ≤ b119 := Nat.le_trans (Nat.le_trans Z0 (Keep.refl h0 []).1) (Nat.le_of_eq g119.symm)
    have sz_b119 : h0.size ≤ b119 := Nat.le_trans (Keep.refl h0 []).1 (Nat.le_of_eq g119.symm)
    have F_offsets_b119 : Fld Z h119 b119 "com/example/bytewright/bytewright/grid/ObjectStarts" "offsets" "[I" .null := D119 (Or.inl (hw _ (List.mem_of_getElem? (i := 12) rfl))) (ty := (.array .int)) (by decide)
    have F_count_b119 : Fld Z h119 b119 "com/example/bytewright/bytewright/grid/ObjectStarts" "count" "I" (.int (0 : Int32)) := D119 (Or.inl (hw _ (List.mem_of_getElem? (i := 19) rfl))) (ty := .int) (by decide)
    have K119 : Keep h0 h119 [] := (Keep.refl h0 []).ext E119
    have pre120 : ∀ t, Steps p.tables e below (T119.setTop (mkF m 147 #[iv p0, iv p1, iv p2, iv p3, iv p4, iv p5, iv va, iv vb, iv vc, iv (2 : Int32), iv (p4 &&& (7 : Int32)), iv off, .unset, .unset, .unset, .unset, .unset, .unset, .unset] [(.ref b119), (.ref b119)])) t → Steps p.tables e below (s₁.setTop (entryFrame m #[(.int p0), (.int p1), (.int p2), (.int p3), (.int p4), (.int p5)] maxLocals)) t := by
      intro t kt
      refine pre118 _ ?_
      show Steps p.tables e below (s₁.setTop (mkF m 143 #[iv p0, iv p1, iv p2, iv p3, iv p4, iv p5, iv va, iv vb, iv vc, iv (2 : Int32), iv (p4 &&& (7 : Int32)), iv off, .unset, .unset, .unset, .unset, .unset, .unset, .unset] [])) _
      refine st119 _ ?_
      show Steps p.tables e below (T119.setTop (mkF m 146 #[iv p0, iv p1, iv p2, iv p3, iv p4, iv p5, iv va, iv vb, iv vc, iv (2 : Int32), iv (p4 &&& (7 : Int32)), iv off, .unset, .unset, .unset, .unset, .unset, .unset, .unset] [(.ref b119)])) _
      refine XS.dup X119.here hx rfl (hb hby at_146) rfl rfl ?_
      exact kt
    obtain ⟨_, _, ⟨T121, L121, k121, n121⟩, -, X121, ⟨Lc121, hQ121, l121, y121, z121⟩, st121⟩ := X119.specialBack hx (y := (⟨"com/example/bytewright/bytewright/grid/ObjectStarts", "<init>", "()V"⟩ : MethodName)) rfl hown (mvT hZ (hw _ (List.mem_of_getElem? (i := 4) rfl))) (mvT hZ (hw _ (List.mem_of_getElem? (i := 5) rfl))) (mvT hZ (hw _ (List.mem_of_getElem? (i := 6) rfl))) (by decide) (backOf (W := 1) (rm1 l Z a0 hw [] b119 h119 n0 (Nat.le_trans Z0 K119.1) F_offsets_b119 F_count_b119 A119 g_b119) hZ (hw _ (List.mem_of_getElem? (i := 6) rfl)) (hw _ (List.mem_of_getElem? (i := 3) rfl)) (by decide) (by decide)) (g := (mkF m 147 #[iv p0, iv p1, iv p2, iv p3, iv p4, iv p5, iv va, iv vb, iv vc, iv (2 : Int32), iv (p4 &&& (7 : Int32)), iv off, .unset, .unset, .unset, .unset, .unset, .unset, .unset] [(.ref b119), (.ref b119)])) rfl (by rw [hml]; rfl) (Steps.refl _) (a := b119) (argsL := []) (rest := [(.ref b119)]) (lenOf pd5 rfl) rfl (by show 2 * 0 + _ ≤ _; exact Nat.le_of_eq rfl) (hb hby at_147) (fun _ _ => ⟨rfl, e119, (by decide : 1 + 1 ≤ _), (by decide : 2 + 16 ≤ _)⟩)
    dsimp only [Pt.U, Pt.locs, Pt.cells, Pt.slots] at X121 l121 y121 z121 st121 hQ121
    subst l121 y121 z121
    obtain ⟨ab121, kb121, rfl, N121q, Kc121, hsz121, Fo121, Fn121, Va121⟩ := hQ121
    have N121 := Fr.app N0 N121q
    have K121 : Keep h0 T121.heap [] := K119.trans Kc121 (allS (Or.inr sz_b119) all0)
    have g_ab121 : n0 ≤ ab121 := Nat.le_trans (Nat.le_trans Z0 K119.1) hsz121
    have sz_ab121 : h0.size ≤ ab121 := Nat.le_trans K119.1 hsz121
    have hne121 : b119 ≠ ab121 := Nat.ne_of_lt (Nat.lt_of_lt_of_le A119.lt hsz121)
    have pre122 : ∀ t, Steps p.tables e below (T121.setTop (mkF m 162 #[iv p0, iv p1, iv p2, iv p3, iv p4, iv p5, iv va, iv vb, iv vc, iv (2 : Int32), iv (p4 &&& (7 : Int32)), iv off, rv b119, .unset, .unset, .unset, .unset, .unset, .unset] [(.int va), (.ref b119)])) t → Steps p.tables e below (s₁.setTop (entryFrame m #[(.int p0), (.int p1), (.int p2), (.int p3), (.int p4), (.int p5)] maxLocals)) t := by
      intro t kt
      refine pre120 _ ?_
      show Steps p.tables e below (T119.setTop (mkF m 147 #[iv p0, iv p1, iv p2, iv p3, iv p4, iv p5, iv va, iv vb, iv vc, iv (2 : Int32), iv (p4 &&& (7 : Int32)), iv off, .unset, .unset, .unset, .unset, .unset, .unset, .unset] [(.ref b119), (.ref b119)])) _
      refine st121.trans ?_
      show Steps p.tables e below (T121.setTop (mkF m 150 #[iv p0, iv p1, iv p2, iv p3, iv p4, iv p5, iv va, iv vb, iv vc, iv (2 : Int32), iv (p4 &&& (7 : Int32)), iv off, .unset, .unset, .unset, .unset, .unset, .unset, .unset] [(.ref b119)])) _
      refine XS.astore X121.here hx rfl (hb hby at_150) rfl rfl (l' := #[iv p0, iv p1, iv p2, iv p3, iv p4, iv p5, iv va, iv vb, iv vc, iv (2 : Int32), iv (p4 &&& (7 : Int32)), iv off, rv b119, .unset, .unset, .unset, .unset, .unset, .unset]) rfl ?_
      refine XS.iload X121.here hx rfl (hb hby at_152) rfl ?_
      refine XS.iconst X121.here hx rfl (hb hby at_154) ?_
      refine XS.icmpNo X121.here hx rfl (hb hby at_155) rfl (flt (by decide)).1 ?_
      refine XS.aload X121.here hx rfl (hb hby at_158) rfl rfl ?_
      refine XS.iload X121.here hx rfl (hb hby at_160) rfl ?_
      exact kt
    obtain ⟨cq123, kq123, q123a, q123b, q123c⟩ := isOf hZ rfl (A119.keep Kc121)
    obtain ⟨_, _, ⟨T123, L123, k123, n123⟩, -, X123, ⟨Lc123, hQ123, l123, y123, z123⟩, st123⟩ := X121.virtualBack hx (y := (⟨"com/example/bytewright/bytewright/grid/ObjectStarts", "add", "(I)I"⟩ : MethodName)) (z := (⟨"com/example/bytewright/bytewright/grid/ObjectStarts", "add", "(I)I"⟩ : MethodName)) hown (mvT hZ (hw _ (List.mem_of_getElem? (i := 13) rfl))) (mvT hZ (hw _ (List.mem_of_getElem? (i := 14) rfl))) (notFace_of_selects (args := #[]) (mvT hZ (hw _ (List.mem_of_getElem? (i := 16) rfl)))) (mvT hZ (hw _ (List.mem_of_getElem? (i := 16) rfl))) (mvT hZ (hw _ (List.mem_of_getElem? (i := 15) rfl))) (by decide) (backOf (W := 0) (rm3c0 l Z a0 hw [] b119 va ab121 kb121 (0 : Int32) (0 : Int32) (0 : Int32) (0 : Int32) T121.heap n0 (Nat.le_trans Z0 K121.1) Fo121 Fn121 (A119.keep Kc121) g_b119 Va121 g_ab121 hne121) hZ (hw _ (List.mem_of_getElem? (i := 17) rfl)) (hw _ (List.mem_of_getElem? (i := 3) rfl)) (by decide) (by decide)) q123a q123c (g := (mkF m 162 #[iv p0, iv p1, iv p2, iv p3, iv p4, iv p5, iv va, iv vb, iv vc, iv (2 : Int32), iv (p4 &&& (7 : Int32)), iv off, rv b119, .unset, .unset, .unset, .unset, .unset, .unset] [(.int va), (.ref b119)])) rfl (by rw [hml]; rfl) (Steps.refl _) (argsL := [(.int va)]) (rest := []) (lenOf pd8 rfl) rfl (by show 2 * 0 + _ ≤ _; exact Nat.le_of_eq rfl) (hb hby at_162) (fun _ _ => ⟨rfl, rfl, (by decide : 2 + 0 ≤ _), (by decide : 18 + 0 ≤ _)⟩)
    dsimp only [Pt.U, Pt.locs, Pt.cells, Pt.slots] at X123 l123 y123 z123 st123 hQ123
    subst l123 y123 z123
    obtain ⟨rfl, N123q, Kc123, Fo123, Fn123, Va123⟩ := hQ123
    have N123 := Fr.app N121 N123q
    have K123 : Keep h0 T123.heap [] := K121.trans Kc123 (allS (Or.inr sz_b119) (allS (Or.inr sz_ab121) all0))
    have pre124 : ∀ t, Steps p.tables e below (T123.setTop (mkF m 176 #[iv p0, iv p1, iv p2, iv p3, iv p4, iv p5, iv va, iv vb, iv vc, iv (2 : Int32), iv (p4 &&& (7 : Int32)), iv off, rv b119, .unset, .unset, .unset, .unset, .unset, .unset] [(.int vb), (.ref b119)])) t → Steps p.tables e below (s₁.setTop (entryFrame m #[(.int p0), (.int p1), (.int p2), (.int p3), (.int p4), (.int p5)] maxLocals)) t := by
      intro t kt
      refine pre122 _ ?_
      show Steps p.tables e below (T121.setTop (mkF m 162 #[iv p0, iv p1, iv p2, iv p3, iv p4, iv p5, iv va, iv vb, iv vc, iv (2 : Int32), iv (p4 &&& (7 : Int32)), iv off, rv b119, .unset, .unset, .unset, .unset, .unset, .unset] [(.int va), (.ref b119)])) _
      refine st123.trans ?_
      show Steps p.tables e below (T123.setTop (mkF m 165 #[iv p0, iv p1, iv p2, iv p3, iv p4, iv p5, iv va, iv vb, iv vc, iv (2 : Int32), iv (p4 &&& (7 : Int32)), iv off, rv b119, .unset, .unset, .unset, .unset, .unset, .unset] [(.int (0 : Int32))])) _
      refine XS.pop X123.here hx rfl (hb hby at_165) rfl rfl ?_
      refine XS.iload X123.here hx rfl (hb hby at_166) rfl ?_
      refine XS.iconst X123.here hx rfl (hb hby at_168) ?_
      refine XS.icmpNo X123.here hx rfl (hb hby at_169) rfl (flt (by decide)).1 ?_
      refine XS.aload X123.here hx rfl (hb hby at_172) rfl rfl ?_
      refine XS.iload X123.here hx rfl (hb hby at_174) rfl ?_
      exact kt
    obtain ⟨cq125, kq125, q125a, q125b, q125c⟩ := isOf hZ rfl ((A119.keep Kc121).keep Kc123)
    obtain ⟨_, _, ⟨T125, L125, k125, n125⟩, -, X125, ⟨Lc125, hQ125, l125, y125, z125⟩, st125⟩ := X123.virtualBack hx (y := (⟨"com/example/bytewright/bytewright/grid/ObjectStarts", "add", "(I)I"⟩ : MethodName)) (z := (⟨"com/example/bytewright/bytewright/grid/ObjectStarts", "add", "(I)I"⟩ : MethodName)) hown (mvT hZ (hw _ (List.mem_of_getElem? (i := 13) rfl))) (mvT hZ (hw _ (List.mem_of_getElem? (i := 14) rfl))) (notFace_of_selects (args := #[]) (mvT hZ (hw _ (List.mem_of_getElem? (i := 16) rfl)))) (mvT hZ (hw _ (List.mem_of_getElem? (i := 16) rfl))) (mvT hZ (hw _ (List.mem_of_getElem? (i := 15) rfl))) (by decide) (backOf (W := 0) (rm3c1 l Z a0 hw [] b119 vb ab121 kb121 va (0 : Int32) (0 : Int32) (0 : Int32) T123.heap n0 (Nat.le_trans Z0 K123.1) Fo123 Fn123 ((A119.keep Kc121).keep Kc123) g_b119 Va123 g_ab121 hne121 hab) hZ (hw _ (List.mem_of_getElem? (i := 17) rfl)) (hw _ (List.mem_of_getElem? (i := 3) rfl)) (by decide) (by decide)) q125a q125c (g := (mkF m 176 #[iv p0, iv p1, iv p2, iv p3, iv p4, iv p5, iv va, iv vb, iv vc, iv (2 : Int32), iv (p4 &&& (7 : Int32)), iv off, rv b119, .unset, .unset, .unset, .unset, .unset, .unset] [(.int vb), (.ref b119)])) rfl (by rw [hml]; rfl) (Steps.refl _) (argsL := [(.int vb)]) (rest := []) (lenOf pd8 rfl) rfl (by show 2 * 0 + _ ≤ _; exact Nat.le_of_eq rfl) (hb hby at_176) (fun _ _ => ⟨rfl, rfl, (by decide : 2 + 0 ≤ _), (by decide : 18 + 0 ≤ _)⟩)
    dsimp only [Pt.U, Pt.locs, Pt.cells, Pt.slots] at X125 l125 y125 z125 st125 hQ125
    subst l125 y125 z125
    obtain ⟨rfl, N125q, Kc125, Fo125, Fn125, Va125⟩ := hQ125
    have N125 := Fr.app N123 N125q
    have K125 : Keep h0 T125.heap [] := K123.trans Kc125 (allS (Or.inr sz_b119) (allS (Or.inr sz_ab121) all0))
    have pre126 : ∀ t, Steps p.tables e below (T125.setTop (mkF m 198 #[iv p0, iv p1, iv p2, iv p3, iv p4, iv p5, iv va, iv vb, iv vc, iv (2 : Int32), iv (p4 &&& (7 : Int32)), iv off, rv b119, .unset, .unset, .unset, .unset, .unset, .unset] [(.int off), (.ref b119)])) t → Steps p.tables e below (s₁.setTop (entryFrame m #[(.int p0), (.int p1), (.int p2), (.int p3), (.int p4), (.int p5)] maxLocals)) t := by
      intro t kt
      refine pre124 _ ?_
      show Steps p.tables e below (T123.setTop (mkF m 176 #[iv p0, iv p1, iv p2, iv p3, iv p4, iv p5, iv va, iv vb, iv vc, iv (2 : Int32), iv (p4 &&& (7 : Int32)), iv off, rv b119, .unset, .unset, .unset, .unset, .unset, .unset] [(.int vb), (.ref b119)])) _
      refine st125.trans ?_
      show Steps p.tables e below (T125.setTop (mkF m 179 #[iv p0, iv p1, iv p2, iv p3, iv p4, iv p5, iv va, iv vb, iv vc, iv (2 : Int32), iv (p4 &&& (7 : Int32)), iv off, rv b119, .unset, .unset, .unset, .unset, .unset, .unset] [(.int (1 : Int32))])) _
      refine XS.pop X125.here hx rfl (hb hby at_179) rfl rfl ?_
      refine XS.iload X125.here hx rfl (hb hby at_180) rfl ?_
      refine XS.iconst X125.here hx rfl (hb hby at_182) ?_
      refine XS.icmpYes X125.here hx rfl (pc0 := 183) (pc' := 194) rfl (hb hby at_183) rfl (tlt (by decide)).1 (by decide) (by decide) ?_
      refine XS.aload X125.here hx rfl (hb hby at_194) rfl rfl ?_
      refine XS.iload X125.here hx rfl (hb hby at_196) rfl ?_
      exact kt
    obtain ⟨cq127, kq127, q127a, q127b, q127c⟩ := isOf hZ rfl (((A119.keep Kc121).keep Kc123).keep Kc125)
    obtain ⟨_, _, ⟨T127, L127, k127, n127⟩, -, X127, ⟨Lc127, hQ127, l127, y127, z127⟩, st127⟩ := X125.virtualBack hx (y := (⟨"com/example/bytewright/bytewright/grid/ObjectStarts", "forgetFrom", "(I)V"⟩ : MethodName)) (z := (⟨"com/example/bytewright/bytewright/grid/ObjectStarts", "forgetFrom", "(I)V"⟩ : MethodName)) hown (mvT hZ (hw _ (List.mem_of_getElem? (i := 20) rfl))) (mvT hZ (hw _ (List.mem_of_getElem? (i := 21) rfl))) (notFace_of_selects (args := #[]) (mvT hZ (hw _ (List.mem_of_getElem? (i := 23) rfl)))) (mvT hZ (hw _ (List.mem_of_getElem? (i := 23) rfl))) (mvT hZ (hw _ (List.mem_of_getElem? (i := 22) rfl))) (by decide) (backOf (W := 0) (rm4c2 l Z a0 hw [] b119 off ab121 kb121 va vb (0 : Int32) (0 : Int32) T125.heap n0 (Nat.le_trans Z0 K125.1) Fo125 Fn125 (((A119.keep Kc121).keep Kc123).keep Kc125) g_b119 Va125 g_ab121 hne121) hZ (hw _ (List.mem_of_getElem? (i := 24) rfl)) (hw _ (List.mem_of_getElem? (i := 3) rfl)) (by decide) (by decide)) q127a q127c (g := (mkF m 198 #[iv p0, iv p1, iv p2, iv p3, iv p4, iv p5, iv va, iv vb, iv vc, iv (2 : Int32), iv (p4 &&& (7 : Int32)), iv off, rv b119, .unset, .unset, .unset, .unset, .unset, .unset] [(.int off), (.ref b119)])) rfl (by rw [hml]; rfl) (Steps.refl _) (argsL := [(.int off)]) (rest := []) (lenOf pd6 rfl) rfl (by show 2 * 0 + _ ≤ _; exact Nat.le_of_eq rfl) (hb hby at_198) (fun _ _ => ⟨rfl, rfl, (by decide : 2 + 0 ≤ _), (by decide : 18 + 0 ≤ _)⟩)
    dsimp only [Pt.U, Pt.locs, Pt.cells, Pt.slots] at X127 l127 y127 z127 st127 hQ127
    subst l127 y127 z127
    obtain ⟨kk127, rfl, N127q, Kc127, Fo127, Fn127, Va127, hs127⟩ := hQ127
    have N127 := Fr.app N125 N127q
    have K127 : Keep h0 T127.heap [] := K125.trans Kc127 (allS (Or.inr sz_b119) (allS (Or.inr sz_ab121) all0))
    have pre128 : ∀ t, Steps p.tables e below (T127.setTop (mkF m 201 #[iv p0, iv p1, iv p2, iv p3, iv p4, iv p5, iv va, iv vb, iv vc, iv (2 : Int32), iv (p4 &&& (7 : Int32)), iv off, rv b119, .unset, .unset, .unset, .unset, .unset, .unset] [])) t → Steps p.tables e below (s₁.setTop (entryFrame m #[(.int p0), (.int p1), (.int p2), (.int p3), (.int p4), (.int p5)] maxLocals)) t := by
      intro t kt
      refine pre126 _ ?_
      show Steps p.tables e below (T125.setTop (mkF m 198 #[iv p0, iv p1, iv p2, iv p3, iv p4, iv p5, iv va, iv vb, iv vc, iv (2 : Int32), iv (p4 &&& (7 : Int32)), iv off, rv b119, .unset, .unset, .unset, .unset, .unset, .unset] [(.int off), (.ref b119)])) _
      refine st127.trans ?_
      exact kt
    rcases hs127 with ⟨t1, rfl⟩ | ⟨t1, t0, rfl⟩ | ⟨t1, t0, rfl⟩
    · have hkk := Nat.le_refl 0
      rw [Int32.lt_iff_toInt_lt] at t1
      have pre130 : ∀ t, Steps p.tables e below (T127.setTop (mkF m 211 #[iv p0, iv p1, iv p2, iv p3, iv p4, iv p5, iv va, iv vb, iv vc, iv (2 : Int32), iv (p4 &&& (7 : Int32)), iv off, rv b119, .unset, .unset, .unset, .unset, .unset, .unset] [(.int off), (.int va)])) t → Steps p.tables e below (s₁.setTop (entryFrame m #[(.int p0), (.int p1), (.int p2), (.int p3), (.int p4), (.int p5)] maxLocals)) t := by
        intro t kt
        refine pre128 _ ?_
        show Steps p.tables e below (T127.setTop (mkF m 201 #[iv p0, iv p1, iv p2, iv p3, iv p4, iv p5, iv va, iv vb, iv vc, iv (2 : Int32), iv (p4 &&& (7 : Int32)), iv off, rv b119, .unset, .unset, .unset, .unset, .unset, .unset] [])) _
        refine XS.iload X127.here hx rfl (hb hby at_201) rfl ?_
        refine XS.iconst X127.here hx rfl (hb hby at_203) ?_
        refine XS.icmpNo X127.here hx rfl (hb hby at_204) rfl (flt (by decide)).1 ?_
        refine XS.iload X127.here hx rfl (hb hby at_207) rfl ?_
        refine XS.iload X127.here hx rfl (hb hby at_209) rfl ?_
        exact kt
      have hc211_129 : va < off := by rw [Int32.lt_iff_toInt_lt]; omega
      have pre132 : ∀ t, Steps p.tables e below (T127.setTop (mkF m 231 #[iv p0, iv p1, iv p2, iv p3, iv p4, iv p5, iv va, iv vb, iv vc, iv (2 : Int32), iv (p4 &&& (7 : Int32)), iv off, rv b119, iv (1 : Int32), .unset, .unset, .unset, .unset, .unset] [(.int off), (.int vb)])) t → Steps p.tables e below (s₁.setTop (entryFrame m #[(.int p0), (.int p1), (.int p2), (.int p3), (.int p4), (.int p5)] maxLocals)) t := by
        intro t kt
        refine pre130 _ ?_
        show Steps p.tables e below (T127.setTop (mkF m 211 #[iv p0, iv p1, iv p2, iv p3, iv p4, iv p5, iv va, iv vb, iv vc, iv (2 : Int32), iv (p4 &&& (7 : Int32)), iv off, rv b119, .unset, .unset, .unset, .unset, .unset, .unset] [(.int off), (.int va)])) _
        refine XS.icmpNo X127.here hx rfl (hb hby at_211) rfl (tlt hc211_129).2.1 ?_
        refine XS.iconst X127.here hx rfl (hb hby at_214) ?_
        refine XS.goto X127.here hx rfl (pc0 := 215) (pc' := 219) rfl (hb hby at_215) (by decide) (by decide) ?_
        refine XS.istore X127.here hx rfl (hb hby at_219) rfl (l' := #[iv p0, iv p1, iv p2, iv p3, iv p4, iv p5, iv va, iv vb, iv vc, iv (2 : Int32), iv (p4 &&& (7 : Int32)), iv off, rv b119, iv (1 : Int32), .unset, .unset, .unset, .unset, .unset]) rfl ?_
        refine XS.iload X127.here hx rfl (hb hby at_221) rfl ?_
        refine XS.iconst X127.here hx rfl (hb hby at_223) ?_
        refine XS.icmpNo X127.here hx rfl (hb hby at_224) rfl (flt (by decide)).1 ?_
        refine XS.iload X127.here hx rfl (hb hby at_227) rfl ?_
        show Steps p.tables e below (T127.setTop (mkF m 229 #[iv p0, iv p1, iv p2, iv p3, iv p4, iv p5, iv va, iv vb, iv vc, iv (2 : Int32), iv (p4 &&& (7 : Int32)), iv off, rv b119, iv (1 : Int32), .unset, .unset, .unset, .unset, .unset] [(.int vb)])) _
        refine XS.iload X127.here hx rfl (hb hby at_229) rfl ?_
        exact kt
      have hc231_131 : vb < off := by rw [Int32.lt_iff_toInt_lt]; omega
      obtain ⟨vt, h_vt⟩ : ∃ z : Int32, z = (vc + (1 : Int32)) := ⟨_, rfl⟩
      have hvt := own_next vc vt h_vt (by omega)
      have pre133 : ∀ t, Steps p.tables e below (T127.setTop (mkF m 310 #[iv p0, iv p1, iv p2, iv p3, iv p4, iv p5, iv va, iv vb, iv vc, iv (2 : Int32), iv (p4 &&& (7 : Int32)), iv off, rv b119, iv (1 : Int32), iv (1 : Int32), iv (0 : Int32), iv (2 : Int32), iv vt, .unset] [(.int (vt - va)), (.int vt), (.ref b119)])) t → Steps p.tables e below (s₁.setTop (entryFrame m #[(.int p0), (.int p1), (.int p2), (.int p3), (.int p4), (.int p5)] maxLocals)) t := by
        intro t kt
        refine pre132 _ ?_
        show Steps p.tables e below (T127.setTop (mkF m 231 #[iv p0, iv p1, iv p2, iv p3, iv p4, iv p5, iv va, iv vb, iv vc, iv (2 : Int32), iv (p4 &&& (7 : Int32)), iv off, rv b119, iv (1 : Int32), .unset, .unset, .unset, .unset, .unset] [(.int off), (.int vb)])) _
        refine XS.icmpNo X127.here hx rfl (hb hby at_231) rfl (tlt hc231_131).2.1 ?_
        refine XS.iconst X127.here hx rfl (hb hby at_234) ?_
        refine XS.goto X127.here hx rfl (pc0 := 235) (pc' := 239) rfl (hb hby at_235) (by decide) (by decide) ?_
        refine XS.istore X127.here hx rfl (hb hby at_239) rfl (l' := #[iv p0, iv p1, iv p2, iv p3, iv p4, iv p5, iv va, iv vb, iv vc, iv (2 : Int32), iv (p4 &&& (7 : Int32)), iv off, rv b119, iv (1 : Int32), iv (1 : Int32), .unset, .unset, .unset, .unset]) rfl ?_
        refine XS.iload X127.here hx rfl (hb hby at_241) rfl ?_
        refine XS.iconst X127.here hx rfl (hb hby at_243) ?_
        refine XS.icmpYes X127.here hx rfl (pc0 := 244) (pc' := 258) rfl (hb hby at_244) rfl (tlt (by decide)).1 (by decide) (by decide) ?_
        refine XS.iconst X127.here hx rfl (hb hby at_258) ?_
        show Steps p.tables e below (T127.setTop (mkF m 259 #[iv p0, iv p1, iv p2, iv p3, iv p4, iv p5, iv va, iv vb, iv vc, iv (2 : Int32), iv (p4 &&& (7 : Int32)), iv off, rv b119, iv (1 : Int32), iv (1 : Int32), .unset, .unset, .unset, .unset] [(.int (0 : Int32))])) _
        refine XS.istore X127.here hx rfl (hb hby at_259) rfl (l' := #[iv p0, iv p1, iv p2, iv p3, iv p4, iv p5, iv va, iv vb, iv vc, iv (2 : Int32), iv (p4 &&& (7 : Int32)), iv off, rv b119, iv (1 : Int32), iv (1 : Int32), iv (0 : Int32), .unset, .unset, .unset]) rfl ?_
        refine XS.iload X127.here hx rfl (hb hby at_261) rfl ?_
        refine XS.ifNo X127.here hx rfl (hb hby at_263) rfl ((if0 _ _).trans (feq (by decide)).1) ?_
        refine XS.iconst X127.here hx rfl (hb hby at_266) ?_
        refine XS.goto X127.here hx rfl (pc0 := 267) (pc' := 271) rfl (hb hby at_267) (by decide) (by decide) ?_
        refine XS.iload X127.here hx rfl (hb hby at_271) rfl ?_
        refine XS.ifNo X127.here hx rfl (hb hby at_273) rfl ((if0 _ _).trans (feq (by decide)).1) ?_
        refine XS.iconst X127.here hx rfl (hb hby at_276) ?_
        show Steps p.tables e below (T127.setTop (mkF m 277 #[iv p0, iv p1, iv p2, iv p3, iv p4, iv p5, iv va, iv vb, iv vc, iv (2 : Int32), iv (p4 &&& (7 : Int32)), iv off, rv b119, iv (1 : Int32), iv (1 : Int32), iv (0 : Int32), .unset, .unset, .unset] [(.int (1 : Int32)), (.int (1 : Int32))])) _
        refine XS.goto X127.here hx rfl (pc0 := 277) (pc' := 281) rfl (hb hby at_277) (by decide) (by decide) ?_
        refine XS.iadd X127.here hx rfl (hb hby at_281) rfl ?_
        show Steps p.tables e below (T127.setTop (mkF m 282 #[iv p0, iv p1, iv p2, iv p3, iv p4, iv p5, iv va, iv vb, iv vc, iv (2 : Int32), iv (p4 &&& (7 : Int32)), iv off, rv b119, iv (1 : Int32), iv (1 : Int32), iv (0 : Int32), .unset, .unset, .unset] [(.int ((1 : Int32) + (1 : Int32)))])) _
        rw [show ((1 : Int32) + (1 : Int32)) = (2 : Int32) from (by decide)]
        show Steps p.tables e below (T127.setTop (mkF m 282 #[iv p0, iv p1, iv p2, iv p3, iv p4, iv p5, iv va, iv vb, iv vc, iv (2 : Int32), iv (p4 &&& (7 : Int32)), iv off, rv b119, iv (1 : Int32), iv (1 : Int32), iv (0 : Int32), .unset, .unset, .unset] [(.int (2 : Int32))])) _
        refine XS.iload X127.here hx rfl (hb hby at_282) rfl ?_
        refine XS.ifYes X127.here hx rfl (pc0 := 284) (pc' := 291) rfl (hb hby at_284) rfl ((if0 _ _).trans (teq (by decide)).1) (by decide) (by decide) ?_
        refine XS.iconst X127.here hx rfl (hb hby at_291) ?_
        refine XS.iadd X127.here hx rfl (hb hby at_292) rfl ?_
        show Steps p.tables e below (T127.setTop (mkF m 293 #[iv p0, iv p1, iv p2, iv p3, iv p4, iv p5, iv va, iv vb, iv vc, iv (2 : Int32), iv (p4 &&& (7 : Int32)), iv off, rv b119, iv (1 : Int32), iv (1 : Int32), iv (0 : Int32), .unset, .unset, .unset] [(.int ((2 : Int32) + (0 : Int32)))])) _
        rw [show ((2 : Int32) + (0 : Int32)) = (2 : Int32) from (by decide)]
        show Steps p.tables e below (T127.setTop (mkF m 293 #[iv p0, iv p1, iv p2, iv p3, iv p4, iv p5, iv va, iv vb, iv vc, iv (2 : Int32), iv (p4 &&& (7 : Int32)), iv off, rv b119, iv (1 : Int32), iv (1 : Int32), iv (0 : Int32), .unset, .unset, .unset] [(.int (2 : Int32))])) _
        refine XS.istore X127.here hx rfl (hb hby at_293) rfl (l' := #[iv p0, iv p1, iv p2, iv p3, iv p4, iv p5, iv va, iv vb, iv vc, iv (2 : Int32), iv (p4 &&& (7 : Int32)), iv off, rv b119, iv (1 : Int32), iv (1 : Int32), iv (0 : Int32), iv (2 : Int32), .unset, .unset]) rfl ?_
        refine XS.iload X127.here hx rfl (hb hby at_295) rfl ?_
        refine XS.iconst X127.here hx rfl (hb hby at_297) ?_
        refine XS.iadd X127.here hx rfl (hb hby at_298) rfl ?_
        refine XS.istore X127.here hx rfl (hb hby at_299) rfl (l' := #[iv p0, iv p1, iv p2, iv p3, iv p4, iv p5, iv va, iv vb, iv vc, iv (2 : Int32), iv (p4 &&& (7 : Int32)), iv off, rv b119, iv (1 : Int32), iv (1 : Int32), iv (0 : Int32), iv (2 : Int32), iv (vc + (1 : Int32)), .unset]) rfl ?_
        show Steps p.tables e below (T127.setTop (mkF m 301 #[iv p0, iv p1, iv p2, iv p3, iv p4, iv p5, iv va, iv vb, iv vc, iv (2 : Int32), iv (p4 &&& (7 : Int32)), iv off, rv b119, iv (1 : Int32), iv (1 : Int32), iv (0 : Int32), iv (2 : Int32), iv (vc + (1 : Int32)), .unset] [])) _
        rw [← h_vt]
        show Steps p.tables e below (T127.setTop (mkF m 301 #[iv p0, iv p1, iv p2, iv p3, iv p4, iv p5, iv va, iv vb, iv vc, iv (2 : Int32), iv (p4 &&& (7 : Int32)), iv off, rv b119, iv (1 : Int32), iv (1 : Int32), iv (0 : Int32), iv (2 : Int32), iv vt, .unset] [])) _
        refine XS.aload X127.here hx rfl (hb hby at_301) rfl rfl ?_
        refine XS.iload X127.here hx rfl (hb hby at_303) rfl ?_
        refine XS.iload X127.here hx rfl (hb hby at_305) rfl ?_
        refine XS.iload X127.here hx rfl (hb hby at_307) rfl ?_
        refine XS.isub X127.here hx rfl (hb hby at_309) rfl ?_
        exact kt
      obtain ⟨cq134, kq134, q134a, q134b, q134c⟩ := isOf hZ rfl ((((A119.keep Kc121).keep Kc123).keep Kc125).keep Kc127)
      obtain ⟨_, _, ⟨T134, L134, k134, n134⟩, -, X134, ⟨Lc134, hQ134, l134, y134, z134⟩, st134⟩ := X127.virtualBack hx (y := (⟨"com/example/bytewright/bytewright/grid/ObjectStarts", "indexOf", "(II)I"⟩ : MethodName)) (z := (⟨"com/example/bytewright/bytewright/grid/ObjectStarts", "indexOf", "(II)I"⟩ : MethodName)) hown (mvT hZ (hw _ (List.mem_of_getElem? (i := 25) rfl))) (mvT hZ (hw _ (List.mem_of_getElem? (i := 26) rfl))) (notFace_of_selects (args := #[]) (mvT hZ (hw _ (List.mem_of_getElem? (i := 28) rfl)))) (mvT hZ (hw _ (List.mem_of_getElem? (i := 28) rfl))) (mvT hZ (hw _ (List.mem_of_getElem? (i := 27) rfl))) (by decide) (backOf (W := 0) (rm5c2 l Z a0 hw [] b119 vt (vt - va) ab121 kb121 va vb (0 : Int32) (0 : Int32) va T127.heap n0 (Nat.le_trans Z0 K127.1) Fo127 Fn127 ((((A119.keep Kc121).keep Kc123).keep Kc125).keep Kc127) Va127 hne121 (own_key vt va (by have := own_next vc vt h_vt (by omega); omega)).1 (own_key vt va (by have := own_next vc vt h_vt (by omega); omega)).2.1 (own_key vt va (by have := own_next vc vt h_vt (by omega); omega)).2.2) hZ (hw _ (List.mem_of_getElem? (i := 29) rfl)) (hw _ (List.mem_of_getElem? (i := 3) rfl)) (by decide) (by decide)) q134a q134c (g := (mkF m 310 #[iv p0, iv p1, iv p2, iv p3, iv p4, iv p5, iv va, iv vb, iv vc, iv (2 : Int32), iv (p4 &&& (7 : Int32)), iv off, rv b119, iv (1 : Int32), iv (1 : Int32), iv (0 : Int32), iv (2 : Int32), iv vt, .unset] [(.int (vt - va)), (.int vt), (.ref b119)])) rfl (by rw [hml]; rfl) (Steps.refl _) (argsL := [(.int vt), (.int (vt - va))]) (rest := []) (lenOf pd7 rfl) rfl (by show 2 * 0 + _ ≤ _; exact Nat.le_of_eq rfl) (hb hby at_310) (fun _ _ => ⟨rfl, rfl, (by decide : 2 + 0 ≤ _), (by decide : 18 + 0 ≤ _)⟩)
      dsimp only [Pt.U, Pt.locs, Pt.cells, Pt.slots] at X134 l134 y134 z134 st134 hQ134
      subst l134 y134 z134
      obtain ⟨rfl, N134q, hh134⟩ := hQ134
      have N134 := Fr.app N127 N134q
      have pre136 : ∀ t, Steps p.tables e below (T134.setTop (mkF m 323 #[iv p0, iv p1, iv p2, iv p3, iv p4, iv p5, iv va, iv vb, iv vc, iv (2 : Int32), iv (p4 &&& (7 : Int32)), iv off, rv b119, iv (1 : Int32), iv (1 : Int32), iv (0 : Int32), iv (2 : Int32), iv vt, .unset] [(.int (0 : Int32)), (.int (own_ix2 va va vb (0 : Int32) (0 : Int32)))])) t → Steps p.tables e below (s₁.setTop (entryFrame m #[(.int p0), (.int p1), (.int p2), (.int p3), (.int p4), (.int p5)] maxLocals)) t := by
        intro t kt
        refine pre133 _ ?_
        show Steps p.tables e below (T127.setTop (mkF m 310 #[iv p0, iv p1, iv p2, iv p3, iv p4, iv p5, iv va, iv vb, iv vc, iv (2 : Int32), iv (p4 &&& (7 : Int32)), iv off, rv b119, iv (1 : Int32), iv (1 : Int32), iv (0 : Int32), iv (2 : Int32), iv vt, .unset] [(.int (vt - va)), (.int vt), (.ref b119)])) _
        refine st134.trans ?_
        show Steps p.tables e below (T134.setTop (mkF m 313 #[iv p0, iv p1, iv p2, iv p3, iv p4, iv p5, iv va, iv vb, iv vc, iv (2 : Int32), iv (p4 &&& (7 : Int32)), iv off, rv b119, iv (1 : Int32), iv (1 : Int32), iv (0 : Int32), iv (2 : Int32), iv vt, .unset] [(.int (own_ix2 va va vb (0 : Int32) (0 : Int32)))])) _
        refine XS.iload X134.here hx rfl (hb hby at_313) rfl ?_
        refine XS.ifNo X134.here hx rfl (hb hby at_315) rfl ((if0 _ _).trans (feq (by decide)).1) ?_
        refine XS.iconst X134.here hx rfl (hb hby at_318) ?_
        refine XS.goto X134.here hx rfl (pc0 := 319) (pc' := 323) rfl (hb hby at_319) (by decide) (by decide) ?_
        exact kt
      have hc323_135 : (own_ix2 va va vb (0 : Int32) (0 : Int32)) = (0 : Int32) := by simp +decide [own_ix2, own_bs2, hab, hbc, hac, nba, ncb, nca, Int32.lt_irrefl]
      have pre137 : ∀ t, Steps p.tables e below (T134.setTop (mkF m 335 #[iv p0, iv p1, iv p2, iv p3, iv p4, iv p5, iv va, iv vb, iv vc, iv (2 : Int32), iv (p4 &&& (7 : Int32)), iv off, rv b119, iv (1 : Int32), iv (1 : Int32), iv (0 : Int32), iv (2 : Int32), iv vt, .unset] [(.int (vt - vb)), (.int vt), (.ref b119)])) t → Steps p.tables e below (s₁.setTop (entryFrame m #[(.int p0), (.int p1), (.int p2), (.int p3), (.int p4), (.int p5)] maxLocals)) t := by
        intro t kt
        refine pre136 _ ?_
        show Steps p.tables e below (T134.setTop (mkF m 323 #[iv p0, iv p1, iv p2, iv p3, iv p4, iv p5, iv va, iv vb, iv vc, iv (2 : Int32), iv (p4 &&& (7 : Int32)), iv off, rv b119, iv (1 : Int32), iv (1 : Int32), iv (0 : Int32), iv (2 : Int32), iv vt, .unset] [(.int (0 : Int32)), (.int (own_ix2 va va vb (0 : Int32) (0 : Int32)))])) _
        refine XS.icmpNo X134.here hx rfl (hb hby at_323) rfl (teq hc323_135).2 ?_
        refine XS.aload X134.here hx rfl (hb hby at_326) rfl rfl ?_
        refine XS.iload X134.here hx rfl (hb hby at_328) rfl ?_
        refine XS.iload X134.here hx rfl (hb hby at_330) rfl ?_
        refine XS.iload X134.here hx rfl (hb hby at_332) rfl ?_
        refine XS.isub X134.here hx rfl (hb hby at_334) rfl ?_
        exact kt
      obtain ⟨cq138, kq138, q138a, q138b, q138c⟩ := isOf hZ hh134 ((((A119.keep Kc121).keep Kc123).keep Kc125).keep Kc127)
      obtain ⟨_, _, ⟨T138, L138, k138, n138⟩, -, X138, ⟨Lc138, hQ138, l138, y138, z138⟩, st138⟩ := X134.virtualBack hx (y := (⟨"com/example/bytewright/bytewright/grid/ObjectStarts", "indexOf", "(II)I"⟩ : MethodName)) (z := (⟨"com/example/bytewright/bytewright/grid/ObjectStarts", "indexOf", "(II)I"⟩ : MethodName)) hown (mvT hZ (hw _ (List.mem_of_getElem? (i := 25) rfl))) (mvT hZ (hw _ (List.mem_of_getElem? (i := 26) rfl))) (notFace_of_selects (args := #[]) (mvT hZ (hw _ (List.mem_of_getElem? (i := 28) rfl)))) (mvT hZ (hw _ (List.mem_of_getElem? (i := 28) rfl))) (mvT hZ (hw _ (List.mem_of_getElem? (i := 27) rfl))) (by decide) (backOf (W := 0) (rm5c2 l Z a0 hw [] b119 vt (vt - vb) ab121 kb121 va vb (0 : Int32) (0 : Int32) vb T127.heap n0 (Nat.le_trans Z0 K127.1) Fo127 Fn127 ((((A119.keep Kc121).keep Kc123).keep Kc125).keep Kc127) Va127 hne121 (own_key vt vb (by have := own_next vc vt h_vt (by omega); omega)).1 (own_key vt vb (by have := own_next vc vt h_vt (by omega); omega)).2.1 (own_key vt vb (by have := own_next vc vt h_vt (by omega); omega)).2.2) hZ (hw _ (List.mem_of_getElem? (i := 29) rfl)) (hw _ (List.mem_of_getElem? (i := 3) rfl)) (by decide) (by decide)) q138a q138c (g := (mkF m 335 #[iv p0, iv p1, iv p2, iv p3, iv p4, iv p5, iv va, iv vb, iv vc, iv (2 : Int32), iv (p4 &&& (7 : Int32)), iv off, rv b119, iv (1 : Int32), iv (1 : Int32), iv (0 : Int32), iv (2 : Int32), iv vt, .unset] [(.int (vt - vb)), (.int vt), (.ref b119)])) rfl (by rw [hml]; rfl) (Steps.refl _) (argsL := [(.int vt), (.int (vt - vb))]) (rest := []) (lenOf pd7 rfl) rfl (by show 2 * 0 + _ ≤ _; exact Nat.le_of_eq rfl) (hb hby at_335) (fun _ _ => ⟨rfl, hh134, (by decide : 2 + 0 ≤ _), (by decide : 18 + 0 ≤ _)⟩)
      dsimp only [Pt.U, Pt.locs, Pt.cells, Pt.slots] at X138 l138 y138 z138 st138 hQ138
      subst l138 y138 z138
      obtain ⟨rfl, N138q, hh138⟩ := hQ138
      have N138 := Fr.app N134 N138q
      have pre140 : ∀ t, Steps p.tables e below (T138.setTop (mkF m 348 #[iv p0, iv p1, iv p2, iv p3, iv p4, iv p5, iv va, iv vb, iv vc, iv (2 : Int32), iv (p4 &&& (7 : Int32)), iv off, rv b119, iv (1 : Int32), iv (1 : Int32), iv (0 : Int32), iv (2 : Int32), iv vt, .unset] [(.int (1 : Int32)), (.int (own_ix2 vb va vb (0 : Int32) (0 : Int32)))])) t → Steps p.tables e below (s₁.setTop (entryFrame m #[(.int p0), (.int p1), (.int p2), (.int p3), (.int p4), (.int p5)] maxLocals)) t := by
        intro t kt
        refine pre137 _ ?_
        show Steps p.tables e below (T134.setTop (mkF m 335 #[iv p0, iv p1, iv p2, iv p3, iv p4, iv p5, iv va, iv vb, iv vc, iv (2 : Int32), iv (p4 &&& (7 : Int32)), iv off, rv b119, iv (1 : Int32), iv (1 : Int32), iv (0 : Int32), iv (2 : Int32), iv vt, .unset] [(.int (vt - vb)), (.int vt), (.ref b119)])) _
        refine st138.trans ?_
        show Steps p.tables e below (T138.setTop (mkF m 338 #[iv p0, iv p1, iv p2, iv p3, iv p4, iv p5, iv va, iv vb, iv vc, iv (2 : Int32), iv (p4 &&& (7 : Int32)), iv off, rv b119, iv (1 : Int32), iv (1 : Int32), iv (0 : Int32), iv (2 : Int32), iv vt, .unset] [(.int (own_ix2 vb va vb (0 : Int32) (0 : Int32)))])) _
        refine XS.iload X138.here hx rfl (hb hby at_338) rfl ?_
        refine XS.ifNo X138.here hx rfl (hb hby at_340) rfl ((if0 _ _).trans (feq (by decide)).1) ?_
        refine XS.iconst X138.here hx rfl (hb hby at_343) ?_
        refine XS.goto X138.here hx rfl (pc0 := 344) (pc' := 348) rfl (hb hby at_344) (by decide) (by decide) ?_
        exact kt
      have hc348_139 : (own_ix2 vb va vb (0 : Int32) (0 : Int32)) = (1 : Int32) := by simp +decide [own_ix2, own_bs2, hab, hbc, hac, nba, ncb, nca, Int32.lt_irrefl]
      have pre141 : ∀ t, Steps p.tables e below (T138.setTop (mkF m 360 #[iv p0, iv p1, iv p2, iv p3, iv p4, iv p5, iv va, iv vb, iv vc, iv (2 : Int32), iv (p4 &&& (7 : Int32)), iv off, rv b119, iv (1 : Int32), iv (1 : Int32), iv (0 : Int32), iv (2 : Int32), iv vt, .unset] [(.int (vt - vc)), (.int vt), (.ref b119)])) t → Steps p.tables e below (s₁.setTop (entryFrame m #[(.int p0), (.int p1), (.int p2), (.int p3), (.int p4), (.int p5)] maxLocals)) t := by
        intro t kt
        refine pre140 _ ?_
        show Steps p.tables e below (T138.setTop (mkF m 348 #[iv p0, iv p1, iv p2, iv p3, iv p4, iv p5, iv va, iv vb, iv vc, iv (2 : Int32), iv (p4 &&& (7 : Int32)), iv off, rv b119, iv (1 : Int32), iv (1 : Int32), iv (0 : Int32), iv (2 : Int32), iv vt, .unset] [(.int (1 : Int32)), (.int (own_ix2 vb va vb (0 : Int32) (0 : Int32)))])) _
        refine XS.icmpNo X138.here hx rfl (hb hby at_348) rfl (teq hc348_139).2 ?_
        refine XS.aload X138.here hx rfl (hb hby at_351) rfl rfl ?_
        refine XS.iload X138.here hx rfl (hb hby at_353) rfl ?_
        refine XS.iload X138.here hx rfl (hb hby at_355) rfl ?_
        refine XS.iload X138.here hx rfl (hb hby at_357) rfl ?_
        refine XS.isub X138.here hx rfl (hb hby at_359) rfl ?_
        exact kt
      obtain ⟨cq142, kq142, q142a, q142b, q142c⟩ := isOf hZ hh138 ((((A119.keep Kc121).keep Kc123).keep Kc125).keep Kc127)
      obtain ⟨_, _, ⟨T142, L142, k142, n142⟩, -, X142, ⟨Lc142, hQ142, l142, y142, z142⟩, st142⟩ := X138.virtualBack hx (y := (⟨"com/example/bytewright/bytewright/grid/ObjectStarts", "indexOf", "(II)I"⟩ : MethodName)) (z := (⟨"com/example/bytewright/bytewright/grid/ObjectStarts", "indexOf", "(II)I"⟩ : MethodName)) hown (mvT hZ (hw _ (List.mem_of_getElem? (i := 25) rfl))) (mvT hZ (hw _ (List.mem_of_getElem? (i := 26) rfl))) (notFace_of_selects (args := #[]) (mvT hZ (hw _ (List.mem_of_getElem? (i := 28) rfl)))) (mvT hZ (hw _ (List.mem_of_getElem? (i := 28) rfl))) (mvT hZ (hw _ (List.mem_of_getElem? (i := 27) rfl))) (by decide) (backOf (W := 0) (rm5c2 l Z a0 hw [] b119 vt (vt - vc) ab121 kb121 va vb (0 : Int32) (0 : Int32) vc T127.heap n0 (Nat.le_trans Z0 K127.1) Fo127 Fn127 ((((A119.keep Kc121).keep Kc123).keep Kc125).keep Kc127) Va127 hne121 (own_key vt vc (by have := own_next vc vt h_vt (by omega); omega)).1 (own_key vt vc (by have := own_next vc vt h_vt (by omega); omega)).2.1 (own_key vt vc (by have := own_next vc vt h_vt (by omega); omega)).2.2) hZ (hw _ (List.mem_of_getElem? (i := 29) rfl)) (hw _ (List.mem_of_getElem? (i := 3) rfl)) (by decide) (by decide)) q142a q142c (g := (mkF m 360 #[iv p0, iv p1, iv p2, iv p3, iv p4, iv p5, iv va, iv vb, iv vc, iv (2 : Int32), iv (p4 &&& (7 : Int32)), iv off, rv b119, iv (1 : Int32), iv (1 : Int32), iv (0 : Int32), iv (2 : Int32), iv vt, .unset] [(.int (vt - vc)), (.int vt), (.ref b119)])) rfl (by rw [hml]; rfl) (Steps.refl _) (argsL := [(.int vt), (.int (vt - vc))]) (rest := []) (lenOf pd7 rfl) rfl (by show 2 * 0 + _ ≤ _; exact Nat.le_of_eq rfl) (hb hby at_360) (fun _ _ => ⟨rfl, hh138, (by decide : 2 + 0 ≤ _), (by decide : 18 + 0 ≤ _)⟩)
      dsimp only [Pt.U, Pt.locs, Pt.cells, Pt.slots] at X142 l142 y142 z142 st142 hQ142
      subst l142 y142 z142
      obtain ⟨rfl, N142q, hh142⟩ := hQ142
      have N142 := Fr.app N138 N142q
      have pre144 : ∀ t, Steps p.tables e below (T142.setTop (mkF m 373 #[iv p0, iv p1, iv p2, iv p3, iv p4, iv p5, iv va, iv vb, iv vc, iv (2 : Int32), iv (p4 &&& (7 : Int32)), iv off, rv b119, iv (1 : Int32), iv (1 : Int32), iv (0 : Int32), iv (2 : Int32), iv vt, .unset] [(.int (-1 : Int32)), (.int (own_ix2 vc va vb (0 : Int32) (0 : Int32)))])) t → Steps p.tables e below (s₁.setTop (entryFrame m #[(.int p0), (.int p1), (.int p2), (.int p3), (.int p4), (.int p5)] maxLocals)) t := by
        intro t kt
        refine pre141 _ ?_
        show Steps p.tables e below (T138.setTop (mkF m 360 #[iv p0, iv p1, iv p2, iv p3, iv p4, iv p5, iv va, iv vb, iv vc, iv (2 : Int32), iv (p4 &&& (7 : Int32)), iv off, rv b119, iv (1 : Int32), iv (1 : Int32), iv (0 : Int32), iv (2 : Int32), iv vt, .unset] [(.int (vt - vc)), (.int vt), (.ref b119)])) _
        refine st142.trans ?_
        show Steps p.tables e below (T142.setTop (mkF m 363 #[iv p0, iv p1, iv p2, iv p3, iv p4, iv p5, iv va, iv vb, iv vc, iv (2 : Int32), iv (p4 &&& (7 : Int32)), iv off, rv b119, iv (1 : Int32), iv (1 : Int32), iv (0 : Int32), iv (2 : Int32), iv vt, .unset] [(.int (own_ix2 vc va vb (0 : Int32) (0 : Int32)))])) _
        refine XS.iload X142.here hx rfl (hb hby at_363) rfl ?_
        refine XS.ifYes X142.here hx rfl (pc0 := 365) (pc' := 372) rfl (hb hby at_365) rfl ((if0 _ _).trans (teq (by decide)).1) (by decide) (by decide) ?_
        refine XS.iconst X142.here hx rfl (hb hby at_372) ?_
        exact kt
      have hc373_143 : (own_ix2 vc va vb (0 : Int32) (0 : Int32)) = (-1 : Int32) := by simp +decide [own_ix2, own_bs2, hab, hbc, hac, nba, ncb, nca, Int32.lt_irrefl]
      have pre145 : ∀ t, Steps p.tables e below (T142.setTop (mkF m 392 #[iv p0, iv p1, iv p2, iv p3, iv p4, iv p5, iv va, iv vb, iv vc, iv (2 : Int32), iv (p4 &&& (7 : Int32)), iv off, rv b119, iv (1 : Int32), iv (1 : Int32), iv (0 : Int32), iv (2 : Int32), iv vt, iv (1 : Int32)] [(.int vt), (.ref b119)])) t → Steps p.tables e below (s₁.setTop (entryFrame m #[(.int p0), (.int p1), (.int p2), (.int p3), (.int p4), (.int p5)] maxLocals)) t := by
        intro t kt
        refine pre144 _ ?_
        show Steps p.tables e below (T142.setTop (mkF m 373 #[iv p0, iv p1, iv p2, iv p3, iv p4, iv p5, iv va, iv vb, iv vc, iv (2 : Int32), iv (p4 &&& (7 : Int32)), iv off, rv b119, iv (1 : Int32), iv (1 : Int32), iv (0 : Int32), iv (2 : Int32), iv vt, .unset] [(.int (-1 : Int32)), (.int (own_ix2 vc va vb (0 : Int32) (0 : Int32)))])) _
        refine XS.icmpNo X142.here hx rfl (hb hby at_373) rfl (teq hc373_143).2 ?_
        refine XS.iconst X142.here hx rfl (hb hby at_376) ?_
        refine XS.goto X142.here hx rfl (pc0 := 377) (pc' := 381) rfl (hb hby at_377) (by decide) (by decide) ?_
        refine XS.istore X142.here hx rfl (hb hby at_381) rfl (l' := #[iv p0, iv p1, iv p2, iv p3, iv p4, iv p5, iv va, iv vb, iv vc, iv (2 : Int32), iv (p4 &&& (7 : Int32)), iv off, rv b119, iv (1 : Int32), iv (1 : Int32), iv (0 : Int32), iv (2 : Int32), iv vt, iv (1 : Int32)]) rfl ?_
        refine XS.iload X142.here hx rfl (hb hby at_383) rfl ?_
        refine XS.ifNo X142.here hx rfl (hb hby at_385) rfl ((if0 _ _).trans (feq (by decide)).1) ?_
        refine XS.aload X142.here hx rfl (hb hby at_388) rfl rfl ?_
        refine XS.iload X142.here hx rfl (hb hby at_390) rfl ?_
        exact kt
      obtain ⟨cq146, kq146, q146a, q146b, q146c⟩ := isOf hZ hh142 ((((A119.keep Kc121).keep Kc123).keep Kc125).keep Kc127)
      obtain ⟨_, _, ⟨T146, L146, k146, n146⟩, -, X146, ⟨Lc146, hQ146, l146, y146, z146⟩, st146⟩ := X142.virtualBack hx (y := (⟨"com/example/bytewright/bytewright/grid/ObjectStarts", "add", "(I)I"⟩ : MethodName)) (z := (⟨"com/example/bytewright/bytewright/grid/ObjectStarts", "add", "(I)I"⟩ : MethodName)) hown (mvT hZ (hw _ (List.mem_of_getElem? (i := 13) rfl))) (mvT hZ (hw _ (List.mem_of_getElem? (i := 14) rfl))) (notFace_of_selects (args := #[]) (mvT hZ (hw _ (List.mem_of_getElem? (i := 16) rfl)))) (mvT hZ (hw _ (List.mem_of_getElem? (i := 16) rfl))) (mvT hZ (hw _ (List.mem_of_getElem? (i := 15) rfl))) (by decide) (backOf (W := 0) (rm3c2 l Z a0 hw [] b119 vt ab121 kb121 va vb (0 : Int32) (0 : Int32) T127.heap n0 (Nat.le_trans Z0 K127.1) Fo127 Fn127 ((((A119.keep Kc121).keep Kc123).keep Kc125).keep Kc127) g_b119 Va127 g_ab121 hne121 (Int32.lt_iff_toInt_lt.mpr (by omega))) hZ (hw _ (List.mem_of_getElem? (i := 17) rfl)) (hw _ (List.mem_of_getElem? (i := 3) rfl)) (by decide) (by decide)) q146a q146c (g := (mkF m 392 #[iv p0, iv p1, iv p2, iv p3, iv p4, iv p5, iv va, iv vb, iv vc, iv (2 : Int32), iv (p4 &&& (7 : Int32)), iv off, rv b119, iv (1 : Int32), iv (1 : Int32), iv (0 : Int32), iv (2 : Int32), iv vt, iv (1 : Int32)] [(.int vt), (.ref b119)])) rfl (by rw [hml]; rfl) (Steps.refl _) (argsL := [(.int vt)]) (rest := []) (lenOf pd8 rfl) rfl (by show 2 * 0 + _ ≤ _; exact Nat.le_of_eq rfl) (hb hby at_392) (fun _ _ => ⟨rfl, hh142, (by decide : 2 + 0 ≤ _), (by decide : 18 + 0 ≤ _)⟩)
      dsimp only [Pt.U, Pt.locs, Pt.cells, Pt.slots] at X146 l146 y146 z146 st146 hQ146
      subst l146 y146 z146
      obtain ⟨rfl, N146q, Kc146, Fo146, Fn146, Va146⟩ := hQ146
      have N146 := Fr.app N142 N146q
      have K146 : Keep h0 T146.heap [] := K127.trans Kc146 (allS (Or.inr sz_b119) (allS (Or.inr sz_ab121) all0))
      have pre147 : ∀ t, Steps p.tables e below (T146.setTop (mkF m 405 #[iv p0, iv p1, iv p2, iv p3, iv p4, iv p5, iv va, iv vb, iv vc, iv (2 : Int32), iv (p4 &&& (7 : Int32)), iv off, rv b119, iv (1 : Int32), iv (1 : Int32), iv (0 : Int32), iv (2 : Int32), iv vt, iv (1 : Int32)] [(.int (1 : Int32))])) t → Steps p.tables e below (s₁.setTop (entryFrame m #[(.int p0), (.int p1), (.int p2), (.int p3), (.int p4), (.int p5)] maxLocals)) t := by
        intro t kt
        refine pre145 _ ?_
        show Steps p.tables e below (T142.setTop (mkF m 392 #[iv p0, iv p1, iv p2, iv p3, iv p4, iv p5, iv va, iv vb, iv vc, iv (2 : Int32), iv (p4 &&& (7 : Int32)), iv off, rv b119, iv (1 : Int32), iv (1 : Int32), iv (0 : Int32), iv (2 : Int32), iv vt, iv (1 : Int32)] [(.int vt), (.ref b119)])) _
        refine st146.trans ?_
        show Steps p.tables e below (T146.setTop (mkF m 395 #[iv p0, iv p1, iv p2, iv p3, iv p4, iv p5, iv va, iv vb, iv vc, iv (2 : Int32), iv (p4 &&& (7 : Int32)), iv off, rv b119, iv (1 : Int32), iv (1 : Int32), iv (0 : Int32), iv (2 : Int32), iv vt, iv (1 : Int32)] [(.int (2 : Int32))])) _
        refine XS.iload X146.here hx rfl (hb hby at_395) rfl ?_
        refine XS.icmpNo X146.here hx rfl (hb hby at_397) rfl (teq (by decide)).2 ?_
        refine XS.iconst X146.here hx rfl (hb hby at_400) ?_
        refine XS.goto X146.here hx rfl (pc0 := 401) (pc' := 405) rfl (hb hby at_401) (by decide) (by decide) ?_
        exact kt
      obtain ⟨fs, hr, hrun, hended, hW, hsame⟩ := X146.leave (v := some (.int (1 : Int32))) (fun h => by rw [Bd.returns] at h; cases h)
      refine ⟨_, _, pre147 _ ?_, hrun, hended, _, _, rfl, ?_, ⟨_, rfl⟩, hW, hsame.mono (by decide) (by decide)⟩
      · show Steps p.tables e below (T146.setTop (mkF m 405 #[iv p0, iv p1, iv p2, iv p3, iv p4, iv p5, iv va, iv vb, iv vc, iv (2 : Int32), iv (p4 &&& (7 : Int32)), iv off, rv b119, iv (1 : Int32), iv (1 : Int32), iv (0 : Int32), iv (2 : Int32), iv vt, iv (1 : Int32)] [(.int (1 : Int32))])) _
        exact retN X146 hx (t := .boolean) Bd.returns (by simp) (hb hby at_405) hr
      · show Q0 Z p0 p1 p2 p3 p4 p5 h0 n0 _ T146.heap _
        exact ⟨rfl, N146⟩
    · have hkk := Nat.le_refl 0
      rw [Int32.lt_iff_toInt_lt] at t1
      rw [Int32.lt_iff_toInt_lt] at t0
      have pre149 : ∀ t, Steps p.tables e below (T127.setTop (mkF m 211 #[iv p0, iv p1, iv p2, iv p3, iv p4, iv p5, iv va, iv vb, iv vc, iv (2 : Int32), iv (p4 &&& (7 : Int32)), iv off, rv b119, .unset, .unset, .unset, .unset, .unset, .unset] [(.int off), (.int va)])) t → Steps p.tables e below (s₁.setTop (entryFrame m #[(.int p0), (.int p1), (.int p2), (.int p3), (.int p4), (.int p5)] maxLocals)) t := by
        intro t kt
        refine pre128 _ ?_
        show Steps p.tables e below (T127.setTop (mkF m 201 #[iv p0, iv p1, iv p2, iv p3, iv p4, iv p5, iv va, iv vb, iv vc, iv (2 : Int32), iv (p4 &&& (7 : Int32)), iv off, rv b119, .unset, .unset, .unset, .unset, .unset, .unset] [])) _
        refine XS.iload X127.here hx rfl (hb hby at_201) rfl ?_
        refine XS.iconst X127.here hx rfl (hb hby at_203) ?_
        refine XS.icmpNo X127.here hx rfl (hb hby at_204) rfl (flt (by decide)).1 ?_
        refine XS.iload X127.here hx rfl (hb hby at_207) rfl ?_
        refine XS.iload X127.here hx rfl (hb hby at_209) rfl ?_
        exact kt
      have hc211_148 : va < off := by rw [Int32.lt_iff_toInt_lt]; omega
      have pre151 : ∀ t, Steps p.tables e below (T127.setTop (mkF m 231 #[iv p0, iv p1, iv p2, iv p3, iv p4, iv p5, iv va, iv vb, iv vc, iv (2 : Int32), iv (p4 &&& (7 : Int32)), iv off, rv b119, iv (1 : Int32), .unset, .unset, .unset, .unset, .unset] [(.int off), (.int vb)])) t → Steps p.tables e below (s₁.setTop (entryFrame m #[(.int p0), (.int p1), (.int p2), (.int p3), (.int p4), (.int p5)] maxLocals)) t := by
        intro t kt
        refine pre149 _ ?_
        show Steps p.tables e below (T127.setTop (mkF m 211 #[iv p0, iv p1, iv p2, iv p3, iv p4, iv p5, iv va, iv vb, iv vc, iv (2 : Int32), iv (p4 &&& (7 : Int32)), iv off, rv b119, .unset, .unset, .unset, .unset, .unset, .unset] [(.int off), (.int va)])) _
        refine XS.icmpNo X127.here hx rfl (hb hby at_211) rfl (tlt hc211_148).2.1 ?_
        refine XS.iconst X127.here hx rfl (hb hby at_214) ?_
        refine XS.goto X127.here hx rfl (pc0 := 215) (pc' := 219) rfl (hb hby at_215) (by decide) (by decide) ?_
        refine XS.istore X127.here hx rfl (hb hby at_219) rfl (l' := #[iv p0, iv p1, iv p2, iv p3, iv p4, iv p5, iv va, iv vb, iv vc, iv (2 : Int32), iv (p4 &&& (7 : Int32)), iv off, rv b119, iv (1 : Int32), .unset, .unset, .unset, .unset, .unset]) rfl ?_
        refine XS.iload X127.here hx rfl (hb hby at_221) rfl ?_
        refine XS.iconst X127.here hx rfl (hb hby at_223) ?_
        refine XS.icmpNo X127.here hx rfl (hb hby at_224) rfl (flt (by decide)).1 ?_
        refine XS.iload X127.here hx rfl (hb hby at_227) rfl ?_
        show Steps p.tables e below (T127.setTop (mkF m 229 #[iv p0, iv p1, iv p2, iv p3, iv p4, iv p5, iv va, iv vb, iv vc, iv (2 : Int32), iv (p4 &&& (7 : Int32)), iv off, rv b119, iv (1 : Int32), .unset, .unset, .unset, .unset, .unset] [(.int vb)])) _
        refine XS.iload X127.here hx rfl (hb hby at_229) rfl ?_
        exact kt
      have hc231_150 : ¬ (vb < off) := by rw [Int32.lt_iff_toInt_lt]; omega
      obtain ⟨vt, h_vt⟩ : ∃ z : Int32, z = (vc + (1 : Int32)) := ⟨_, rfl⟩
      have hvt := own_next vc vt h_vt (by omega)
      have pre152 : ∀ t, Steps p.tables e below (T127.setTop (mkF m 310 #[iv p0, iv p1, iv p2, iv p3, iv p4, iv p5, iv va, iv vb, iv vc, iv (2 : Int32), iv (p4 &&& (7 : Int32)), iv off, rv b119, iv (1 : Int32), iv (0 : Int32), iv (0 : Int32), iv (1 : Int32), iv vt, .unset] [(.int (vt - va)), (.int vt), (.ref b119)])) t → Steps p.tables e below (s₁.setTop (entryFrame m #[(.int p0), (.int p1), (.int p2), (.int p3), (.int p4), (.int p5)] maxLocals)) t := by
        intro t kt
        refine pre151 _ ?_
        show Steps p.tables e below (T127.setTop (mkF m 231 #[iv p0, iv p1, iv p2, iv p3, iv p4, iv p5, iv va, iv vb, iv vc, iv (2 : Int32), iv (p4 &&& (7 : Int32)), iv off, rv b119, iv (1 : Int32), .unset, .unset, .unset, .unset, .unset] [(.int off), (.int vb)])) _
        refine XS.icmpYes X127.here hx rfl (pc0 := 231) (pc' := 238) rfl (hb hby at_231) rfl (flt hc231_150).2.1 (by decide) (by decide) ?_
        refine XS.iconst X127.here hx rfl (hb hby at_238) ?_
        refine XS.istore X127.here hx rfl (hb hby at_239) rfl (l' := #[iv p0, iv p1, iv p2, iv p3, iv p4, iv p5, iv va, iv vb, iv vc, iv (2 : Int32), iv (p4 &&& (7 : Int32)), iv off, rv b119, iv (1 : Int32), iv (0 : Int32), .unset, .unset, .unset, .unset]) rfl ?_
        refine XS.iload X127.here hx rfl (hb hby at_241) rfl ?_
        refine XS.iconst X127.here hx rfl (hb hby at_243) ?_
        refine XS.icmpYes X127.here hx rfl (pc0 := 244) (pc' := 258) rfl (hb hby at_244) rfl (tlt (by decide)).1 (by decide) (by decide) ?_
        refine XS.iconst X127.here hx rfl (hb hby at_258) ?_
        refine XS.istore X127.here hx rfl (hb hby at_259) rfl (l' := #[iv p0, iv p1, iv p2, iv p3, iv p4, iv p5, iv va, iv vb, iv vc, iv (2 : Int32), iv (p4 &&& (7 : Int32)), iv off, rv b119, iv (1 : Int32), iv (0 : Int32), iv (0 : Int32), .unset, .unset, .unset]) rfl ?_
        show Steps p.tables e below (T127.setTop (mkF m 261 #[iv p0, iv p1, iv p2, iv p3, iv p4, iv p5, iv va, iv vb, iv vc, iv (2 : Int32), iv (p4 &&& (7 : Int32)), iv off, rv b119, iv (1 : Int32), iv (0 : Int32), iv (0 : Int32), .unset, .unset, .unset] [])) _
        refine XS.iload X127.here hx rfl (hb hby at_261) rfl ?_
        refine XS.ifNo X127.here hx rfl (hb hby at_263) rfl ((if0 _ _).trans (feq (by decide)).1) ?_
        refine XS.iconst X127.here hx rfl (hb hby at_266) ?_
        refine XS.goto X127.here hx rfl (pc0 := 267) (pc' := 271) rfl (hb hby at_267) (by decide) (by decide) ?_
        refine XS.iload X127.here hx rfl (hb hby at_271) rfl ?_
        refine XS.ifYes X127.here hx rfl (pc0 := 273) (pc' := 280) rfl (hb hby at_273) rfl ((if0 _ _).trans (teq (by decide)).1) (by decide) (by decide) ?_
        refine XS.iconst X127.here hx rfl (hb hby at_280) ?_
        refine XS.iadd X127.here hx rfl (hb hby at_281) rfl ?_
        show Steps p.tables e below (T127.setTop (mkF m 282 #[iv p0, iv p1, iv p2, iv p3, iv p4, iv p5, iv va, iv vb, iv vc, iv (2 : Int32), iv (p4 &&& (7 : Int32)), iv off, rv b119, iv (1 : Int32), iv (0 : Int32), iv (0 : Int32), .unset, .unset, .unset] [(.int ((1 : Int32) + (0 : Int32)))])) _
        rw [show ((1 : Int32) + (0 : Int32)) = (1 : Int32) from (by decide)]
        show Steps p.tables e below (T127.setTop (mkF m 282 #[iv p0, iv p1, iv p2, iv p3, iv p4, iv p5, iv va, iv vb, iv vc, iv (2 : Int32), iv (p4 &&& (7 : Int32)), iv off, rv b119, iv (1 : Int32), iv (0 : Int32), iv (0 : Int32), .unset, .unset, .unset] [(.int (1 : Int32))])) _
        refine XS.iload X127.here hx rfl (hb hby at_282) rfl ?_
        refine XS.ifYes X127.here hx rfl (pc0 := 284) (pc' := 291) rfl (hb hby at_284) rfl ((if0 _ _).trans (teq (by decide)).1) (by decide) (by decide) ?_
        refine XS.iconst X127.here hx rfl (hb hby at_291) ?_
        refine XS.iadd X127.here hx rfl (hb hby at_292) rfl ?_
        show Steps p.tables e below (T127.setTop (mkF m 293 #[iv p0, iv p1, iv p2, iv p3, iv p4, iv p5, iv va, iv vb, iv vc, iv (2 : Int32), iv (p4 &&& (7 : Int32)), iv off, rv b119, iv (1 : Int32), iv (0 : Int32), iv (0 : Int32), .unset, .unset, .unset] [(.int ((1 : Int32) + (0 : Int32)))])) _
        rw [show ((1 : Int32) + (0 : Int32)) = (1 : Int32) from (by decide)]
        show Steps p.tables e below (T127.setTop (mkF m 293 #[iv p0, iv p1, iv p2, iv p3, iv p4, iv p5, iv va, iv vb, iv vc, iv (2 : Int32), iv (p4 &&& (7 : Int32)), iv off, rv b119, iv (1 : Int32), iv (0 : Int32), iv (0 : Int32), .unset, .unset, .unset] [(.int (1 : Int32))])) _
        refine XS.istore X127.here hx rfl (hb hby at_293) rfl (l' := #[iv p0, iv p1, iv p2, iv p3, iv p4, iv p5, iv va, iv vb, iv vc, iv (2 : Int32), iv (p4 &&& (7 : Int32)), iv off, rv b119, iv (1 : Int32), iv (0 : Int32), iv (0 : Int32), iv (1 : Int32), .unset, .unset]) rfl ?_
        refine XS.iload X127.here hx rfl (hb hby at_295) rfl ?_
        refine XS.iconst X127.here hx rfl (hb hby at_297) ?_
        refine XS.iadd X127.here hx rfl (hb hby at_298) rfl ?_
        refine XS.istore X127.here hx rfl (hb hby at_299) rfl (l' := #[iv p0, iv p1, iv p2, iv p3, iv p4, iv p5, iv va, iv vb, iv vc, iv (2 : Int32), iv (p4 &&& (7 : Int32)), iv off, rv b119, iv (1 : Int32), iv (0 : Int32), iv (0 : Int32), iv (1 : Int32), iv (vc + (1 : Int32)), .unset]) rfl ?_
        show Steps p.tables e below (T127.setTop (mkF m 301 #[iv p0, iv p1, iv p2, iv p3, iv p4, iv p5, iv va, iv vb, iv vc, iv (2 : Int32), iv (p4 &&& (7 : Int32)), iv off, rv b119, iv (1 : Int32), iv (0 : Int32), iv (0 : Int32), iv (1 : Int32), iv (vc + (1 : Int32)), .unset] [])) _
        rw [← h_vt]
        show Steps p.tables e below (T127.setTop (mkF m 301 #[iv p0, iv p1, iv p2, iv p3, iv p4, iv p5, iv va, iv vb, iv vc, iv (2 : Int32), iv (p4 &&& (7 : Int32)), iv off, rv b119, iv (1 : Int32), iv (0 : Int32), iv (0 : Int32), iv (1 : Int32), iv vt, .unset] [])) _
        refine XS.aload X127.here hx rfl (hb hby at_301) rfl rfl ?_
        refine XS.iload X127.here hx rfl (hb hby at_303) rfl ?_
        refine XS.iload X127.here hx rfl (hb hby at_305) rfl ?_
        refine XS.iload X127.here hx rfl (hb hby at_307) rfl ?_
        refine XS.isub X127.here hx rfl (hb hby at_309) rfl ?_
        exact kt
      obtain ⟨cq153, kq153, q153a, q153b, q153c⟩ := isOf hZ rfl ((((A119.keep Kc121).keep Kc123).keep Kc125).keep Kc127)
      obtain ⟨_, _, ⟨T153, L153, k153, n153⟩, -, X153, ⟨Lc153, hQ153, l153, y153, z153⟩, st153⟩ := X127.virtualBack hx (y := (⟨"com/example/bytewright/bytewright/grid/ObjectStarts", "indexOf", "(II)I"⟩ : MethodName)) (z := (⟨"com/example/bytewright/bytewright/grid/ObjectStarts", "indexOf", "(II)I"⟩ : MethodName)) hown (mvT hZ (hw _ (List.mem_of_getElem? (i := 25) rfl))) (mvT hZ (hw _ (List.mem_of_getElem? (i := 26) rfl))) (notFace_of_selects (args := #[]) (mvT hZ (hw _ (List.mem_of_getElem? (i := 28) rfl)))) (mvT hZ (hw _ (List.mem_of_getElem? (i := 28) rfl))) (mvT hZ (hw _ (List.mem_of_getElem? (i := 27) rfl))) (by decide) (backOf (W := 0) (rm5c1 l Z a0 hw [] b119 vt (vt - va) ab121 kb121 va vb (0 : Int32) (0 : Int32) va T127.heap n0 (Nat.le_trans Z0 K127.1) Fo127 Fn127 ((((A119.keep Kc121).keep Kc123).keep Kc125).keep Kc127) Va127 hne121 (own_key vt va (by have := own_next vc vt h_vt (by omega); omega)).1 (own_key vt va (by have := own_next vc vt h_vt (by omega); omega)).2.1 (own_key vt va (by have := own_next vc vt h_vt (by omega); omega)).2.2) hZ (hw _ (List.mem_of_getElem? (i := 29) rfl)) (hw _ (List.mem_of_getElem? (i := 3) rfl)) (by decide) (by decide)) q153a q153c (g := (mkF m 310 #[iv p0, iv p1, iv p2, iv p3, iv p4, iv p5, iv va, iv vb, iv vc, iv (2 : Int32), iv (p4 &&& (7 : Int32)), iv off, rv b119, iv (1 : Int32), iv (0 : Int32), iv (0 : Int32), iv (1 : Int32), iv vt, .unset] [(.int (vt - va)), (.int vt), (.ref b119)])) rfl (by rw [hml]; rfl) (Steps.refl _) (argsL := [(.int vt), (.int (vt - va))]) (rest := []) (lenOf pd7 rfl) rfl (by show 2 * 0 + _ ≤ _; exact Nat.le_of_eq rfl) (hb hby at_310) (fun _ _ => ⟨rfl, rfl, (by decide : 2 + 0 ≤ _), (by decide : 18 + 0 ≤ _)⟩)
      dsimp only [Pt.U, Pt.locs, Pt.cells, Pt.slots] at X153 l153 y153 z153 st153 hQ153
      subst l153 y153 z153
      obtain ⟨rfl, N153q, hh153⟩ := hQ153
      have N153 := Fr.app N127 N153q
      have pre155 : ∀ t, Steps p.tables e below (T153.setTop (mkF m 323 #[iv p0, iv p1, iv p2, iv p3, iv p4, iv p5, iv va, iv vb, iv vc, iv (2 : Int32), iv (p4 &&& (7 : Int32)), iv off, rv b119, iv (1 : Int32), iv (0 : Int32), iv (0 : Int32), iv (1 : Int32), iv vt, .unset] [(.int (0 : Int32)), (.int (own_ix1 va va vb (0 : Int32) (0 : Int32)))])) t → Steps p.tables e below (s₁.setTop (entryFrame m #[(.int p0), (.int p1), (.int p2), (.int p3), (.int p4), (.int p5)] maxLocals)) t := by
        intro t kt
        refine pre152 _ ?_
        show Steps p.tables e below (T127.setTop (mkF m 310 #[iv p0, iv p1, iv p2, iv p3, iv p4, iv p5, iv va, iv vb, iv vc, iv (2 : Int32), iv (p4 &&& (7 : Int32)), iv off, rv b119, iv (1 : Int32), iv (0 : Int32), iv (0 : Int32), iv (1 : Int32), iv vt, .unset] [(.int (vt - va)), (.int vt), (.ref b119)])) _
        refine st153.trans ?_
        show Steps p.tables e below (T153.setTop (mkF m 313 #[iv p0, iv p1, iv p2, iv p3, iv p4, iv p5, iv va, iv vb, iv vc, iv (2 : Int32), iv (p4 &&& (7 : Int32)), iv off, rv b119, iv (1 : Int32), iv (0 : Int32), iv (0 : Int32), iv (1 : Int32), iv vt, .unset] [(.int (own_ix1 va va vb (0 : Int32) (0 : Int32)))])) _
        refine XS.iload X153.here hx rfl (hb hby at_313) rfl ?_
        refine XS.ifNo X153.here hx rfl (hb hby at_315) rfl ((if0 _ _).trans (feq (by decide)).1) ?_
        refine XS.iconst X153.here hx rfl (hb hby at_318) ?_
        refine XS.goto X153.here hx rfl (pc0 := 319) (pc' := 323) rfl (hb hby at_319) (by decide) (by decide) ?_
        exact kt
      have hc323_154 : (own_ix1 va va vb (0 : Int32) (0 : Int32)) = (0 : Int32) := by simp +decide [own_ix1, own_bs1, hab, hbc, hac, nba, ncb, nca, Int32.lt_irrefl]
      have pre156 : ∀ t, Steps p.tables e below (T153.setTop (mkF m 335 #[iv p0, iv p1, iv p2, iv p3, iv p4, iv p5, iv va, iv vb, iv vc, iv (2 : Int32), iv (p4 &&& (7 : Int32)), iv off, rv b119, iv (1 : Int32), iv (0 : Int32), iv (0 : Int32), iv (1 : Int32), iv vt, .unset] [(.int (vt - vb)), (.int vt), (.ref b119)])) t → Steps p.tables e below (s₁.setTop (entryFrame m #[(.int p0), (.int p1), (.int p2), (.int p3), (.int p4), (.int p5)] maxLocals)) t := by
        intro t kt
        refine pre155 _ ?_
        show Steps p.tables e below (T153.setTop (mkF m 323 #[iv p0, iv p1, iv p2, iv p3, iv p4, iv p5, iv va, iv vb, iv vc, iv (2 : Int32), iv (p4 &&& (7 : Int32)), iv off, rv b119, iv (1 : Int32), iv (0 : Int32), iv (0 : Int32), iv (1 : Int32), iv vt, .unset] [(.int (0 : Int32)), (.int (own_ix1 va va vb (0 : Int32) (0 : Int32)))])) _
        refine XS.icmpNo X153.here hx rfl (hb hby at_323) rfl (teq hc323_154).2 ?_
        refine XS.aload X153.here hx rfl (hb hby at_326) rfl rfl ?_
        refine XS.iload X153.here hx rfl (hb hby at_328) rfl ?_
        refine XS.iload X153.here hx rfl (hb hby at_330) rfl ?_
        refine XS.iload X153.here hx rfl (hb hby at_332) rfl ?_
        refine XS.isub X153.here hx rfl (hb hby at_334) rfl ?_
        exact kt
      obtain ⟨cq157, kq157, q157a, q157b, q157c⟩ := isOf hZ hh153 ((((A119.keep Kc121).keep Kc123).keep Kc125).keep Kc127)
      obtain ⟨_, _, ⟨T157, L157, k157, n157⟩, -, X157, ⟨Lc157, hQ157, l157, y157, z157⟩, st157⟩ := X153.virtualBack hx (y := (⟨"com/example/bytewright/bytewright/grid/ObjectStarts", "indexOf", "(II)I"⟩ : MethodName)) (z := (⟨"com/example/bytewright/bytewright/grid/ObjectStarts", "indexOf", "(II)I"⟩ : MethodName)) hown (mvT hZ (hw _ (List.mem_of_getElem? (i := 25) rfl))) (mvT hZ (hw _ (List.mem_of_getElem? (i := 26) rfl))) (notFace_of_selects (args := #[]) (mvT hZ (hw _ (List.mem_of_getElem? (i := 28) rfl)))) (mvT hZ (hw _ (List.mem_of_getElem? (i := 28) rfl))) (mvT hZ (hw _ (List.mem_of_getElem? (i := 27) rfl))) (by decide) (backOf (W := 0) (rm5c1 l Z a0 hw [] b119 vt (vt - vb) ab121 kb121 va vb (0 : Int32) (0 : Int32) vb T127.heap n0 (Nat.le_trans Z0 K127.1) Fo127 Fn127 ((((A119.keep Kc121).keep Kc123).keep Kc125).keep Kc127) Va127 hne121 (own_key vt vb (by have := own_next vc vt h_vt (by omega); omega)).1 (own_key vt vb (by have := own_next vc vt h_vt (by omega); omega)).2.1 (own_key vt vb (by have := own_next vc vt h_vt (by omega); omega)).2.2) hZ (hw _ (List.mem_of_getElem? (i := 29) rfl)) (hw _ (List.mem_of_getElem? (i := 3) rfl)) (by decide) (by decide)) q157a q157c (g := (mkF m 335 #[iv p0, iv p1, iv p2, iv p3, iv p4, iv p5, iv va, iv vb, iv vc, iv (2 : Int32), iv (p4 &&& (7 : Int32)), iv off, rv b119, iv (1 : Int32), iv (0 : Int32), iv (0 : Int32), iv (1 : Int32), iv vt, .unset] [(.int (vt - vb)), (.int vt), (.ref b119)])) rfl (by rw [hml]; rfl) (Steps.refl _) (argsL := [(.int vt), (.int (vt - vb))]) (rest := []) (lenOf pd7 rfl) rfl (by show 2 * 0 + _ ≤ _; exact Nat.le_of_eq rfl) (hb hby at_335) (fun _ _ => ⟨rfl, hh153, (by decide : 2 + 0 ≤ _), (by decide : 18 + 0 ≤ _)⟩)
      dsimp only [Pt.U, Pt.locs, Pt.cells, Pt.slots] at X157 l157 y157 z157 st157 hQ157
      subst l157 y157 z157
      obtain ⟨rfl, N157q, hh157⟩ := hQ157
      have N157 := Fr.app N153 N157q
      have pre159 : ∀ t, Steps p.tables e below (T157.setTop (mkF m 348 #[iv p0, iv p1, iv p2, iv p3, iv p4, iv p5, iv va, iv vb, iv vc, iv (2 : Int32), iv (p4 &&& (7 : Int32)), iv off, rv b119, iv (1 : Int32), iv (0 : Int32), iv (0 : Int32), iv (1 : Int32), iv vt, .unset] [(.int (-1 : Int32)), (.int (own_ix1 vb va vb (0 : Int32) (0 : Int32)))])) t → Steps p.tables e below (s₁.setTop (entryFrame m #[(.int p0), (.int p1), (.int p2), (.int p3), (.int p4), (.int p5)] maxLocals)) t := by
        intro t kt
        refine pre156 _ ?_
        show Steps p.tables e below (T153.setTop (mkF m 335 #[iv p0, iv p1, iv p2, iv p3, iv p4, iv p5, iv va, iv vb, iv vc, iv (2 : Int32), iv (p4 &&& (7 : Int32)), iv off, rv b119, iv (1 : Int32), iv (0 : Int32), iv (0 : Int32), iv (1 : Int32), iv vt, .unset] [(.int (vt - vb)), (.int vt), (.ref b119)])) _
        refine st157.trans ?_
        show Steps p.tables e below (T157.setTop (mkF m 338 #[iv p0, iv p1, iv p2, iv p3, iv p4, iv p5, iv va, iv vb, iv vc, iv (2 : Int32), iv (p4 &&& (7 : Int32)), iv off, rv b119, iv (1 : Int32), iv (0 : Int32), iv (0 : Int32), iv (1 : Int32), iv vt, .unset] [(.int (own_ix1 vb va vb (0 : Int32) (0 : Int32)))])) _
        refine XS.iload X157.here hx rfl (hb hby at_338) rfl ?_
        refine XS.ifYes X157.here hx rfl (pc0 := 340) (pc' := 347) rfl (hb hby at_340) rfl ((if0 _ _).trans (teq (by decide)).1) (by decide) (by decide) ?_
        refine XS.iconst X157.here hx rfl (hb hby at_347) ?_
        exact kt
      have hc348_158 : (own_ix1 vb va vb (0 : Int32) (0 : Int32)) = (-1 : Int32) := by simp +decide [own_ix1, own_bs1, hab, hbc, hac, nba, ncb, nca, Int32.lt_irrefl]
      have pre160 : ∀ t, Steps p.tables e below (T157.setTop (mkF m 360 #[iv p0, iv p1, iv p2, iv p3, iv p4, iv p5, iv va, iv vb, iv vc, iv (2 : Int32), iv (p4 &&& (7 : Int32)), iv off, rv b119, iv (1 : Int32), iv (0 : Int32), iv (0 : Int32), iv (1 : Int32), iv vt, .unset] [(.int (vt - vc)), (.int vt), (.ref b119)])) t → Steps p.tables e below (s₁.setTop (entryFrame m #[(.int p0), (.int p1), (.int p2), (.int p3), (.int p4), (.int p5)] maxLocals)) t := by
        intro t kt
        refine pre159 _ ?_
        show Steps p.tables e below (T157.setTop (mkF m 348 #[iv p0, iv p1, iv p2, iv p3, iv p4, iv p5, iv va, iv vb, iv vc, iv (2 : Int32), iv (p4 &&& (7 : Int32)), iv off, rv b119, iv (1 : Int32), iv (0 : Int32), iv (0 : Int32), iv (1 : Int32), iv vt, .unset] [(.int (-1 : Int32)), (.int (own_ix1 vb va vb (0 : Int32) (0 : Int32)))])) _
        refine XS.icmpNo X157.here hx rfl (hb hby at_348) rfl (teq hc348_158).2 ?_
        refine XS.aload X157.here hx rfl (hb hby at_351) rfl rfl ?_
        refine XS.iload X157.here hx rfl (hb hby at_353) rfl ?_
        refine XS.iload X157.here hx rfl (hb hby at_355) rfl ?_
        refine XS.iload X157.here hx rfl (hb hby at_357) rfl ?_
        refine XS.isub X157.here hx rfl (hb hby at_359) rfl ?_
        exact kt
      obtain ⟨cq161, kq161, q161a, q161b, q161c⟩ := isOf hZ hh157 ((((A119.keep Kc121).keep Kc123).keep Kc125).keep Kc127)
      obtain ⟨_, _, ⟨T161, L161, k161, n161⟩, -, X161, ⟨Lc161, hQ161, l161, y161, z161⟩, st161⟩ := X157.virtualBack hx (y := (⟨"com/example/bytewright/bytewright/grid/ObjectStarts", "indexOf", "(II)I"⟩ : MethodName)) (z := (⟨"com/example/bytewright/bytewright/grid/ObjectStarts", "indexOf", "(II)I"⟩ : MethodName)) hown (mvT hZ (hw _ (List.mem_of_getElem? (i := 25) rfl))) (mvT hZ (hw _ (List.mem_of_getElem? (i := 26) rfl))) (notFace_of_selects (args := #[]) (mvT hZ (hw _ (List.mem_of_getElem? (i := 28) rfl)))) (mvT hZ (hw _ (List.mem_of_getElem? (i := 28) rfl))) (mvT hZ (hw _ (List.mem_of_getElem? (i := 27) rfl))) (by decide) (backOf (W := 0) (rm5c1 l Z a0 hw [] b119 vt (vt - vc) ab121 kb121 va vb (0 : Int32) (0 : Int32) vc T127.heap n0 (Nat.le_trans Z0 K127.1) Fo127 Fn127 ((((A119.keep Kc121).keep Kc123).keep Kc125).keep Kc127) Va127 hne121 (own_key vt vc (by have := own_next vc vt h_vt (by omega); omega)).1 (own_key vt vc (by have := own_next vc vt h_vt (by omega); omega)).2.1 (own_key vt vc (by have := own_next vc vt h_vt (by omega); omega)).2.2) hZ (hw _ (List.mem_of_getElem? (i := 29) rfl)) (hw _ (List.mem_of_getElem? (i := 3) rfl)) (by decide) (by decide)) q161a q161c (g := (mkF m 360 #[iv p0, iv p1, iv p2, iv p3, iv p4, iv p5, iv va, iv vb, iv vc, iv (2 : Int32), iv (p4 &&& (7 : Int32)), iv off, rv b119, iv (1 : Int32), iv (0 : Int32), iv (0 : Int32), iv (1 : Int32), iv vt, .unset] [(.int (vt - vc)), (.int vt), (.ref b119)])) rfl (by rw [hml]; rfl) (Steps.refl _) (argsL := [(.int vt), (.int (vt - vc))]) (rest := []) (lenOf pd7 rfl) rfl (by show 2 * 0 + _ ≤ _; exact Nat.le_of_eq rfl) (hb hby at_360) (fun _ _ => ⟨rfl, hh157, (by decide : 2 + 0 ≤ _), (by decide : 18 + 0 ≤ _)⟩)
      dsimp only [Pt.U, Pt.locs, Pt.cells, Pt.slots] at X161 l161 y161 z161 st161 hQ161
      subst l161 y161 z161
      obtain ⟨rfl, N161q, hh161⟩ := hQ161
      have N161 := Fr.app N157 N161q
      have pre163 : ∀ t, Steps p.tables e below (T161.setTop (mkF m 373 #[iv p0, iv p1, iv p2, iv p3, iv p4, iv p5, iv va, iv vb, iv vc, iv (2 : Int32), iv (p4 &&& (7 : Int32)), iv off, rv b119, iv (1 : Int32), iv (0 : Int32), iv (0 : Int32), iv (1 : Int32), iv vt, .unset] [(.int (-1 : Int32)), (.int (own_ix1 vc va vb (0 : Int32) (0 : Int32)))])) t → Steps p.tables e below (s₁.setTop (entryFrame m #[(.int p0), (.int p1), (.int p2), (.int p3), (.int p4), (.int p5)] maxLocals)) t := by
        intro t kt
        refine pre160 _ ?_
        show Steps p.tables e below (T157.setTop (mkF m 360 #[iv p0, iv p1, iv p2, iv p3, iv p4, iv p5, iv va, iv vb, iv vc, iv (2 : Int32), iv (p4 &&& (7 : Int32)), iv off, rv b119, iv (1 : Int32), iv (0 : Int32), iv (0 : Int32), iv (1 : Int32), iv vt, .unset] [(.int (vt - vc)), (.int vt), (.ref b119)])) _
        refine st161.trans ?_
        show Steps p.tables e below (T161.setTop (mkF m 363 #[iv p0, iv p1, iv p2, iv p3, iv p4, iv p5, iv va, iv vb, iv vc, iv (2 : Int32), iv (p4 &&& (7 : Int32)), iv off, rv b119, iv (1 : Int32), iv (0 : Int32), iv (0 : Int32), iv (1 : Int32), iv vt, .unset] [(.int (own_ix1 vc va vb (0 : Int32) (0 : Int32)))])) _
        refine XS.iload X161.here hx rfl (hb hby at_363) rfl ?_
        refine XS.ifYes X161.here hx rfl (pc0 := 365) (pc' := 372) rfl (hb hby at_365) rfl ((if0 _ _).trans (teq (by decide)).1) (by decide) (by decide) ?_
        refine XS.iconst X161.here hx rfl (hb hby at_372) ?_
        exact kt
      have hc373_162 : (own_ix1 vc va vb (0 : Int32) (0 : Int32)) = (-1 : Int32) := by simp +decide [own_ix1, own_bs1, hab, hbc, hac, nba, ncb, nca, Int32.lt_irrefl]
      have pre164 : ∀ t, Steps p.tables e below (T161.setTop (mkF m 392 #[iv p0, iv p1, iv p2, iv p3, iv p4, iv p5, iv va, iv vb, iv vc, iv (2 : Int32), iv (p4 &&& (7 : Int32)), iv off, rv b119, iv (1 : Int32), iv (0 : Int32), iv (0 : Int32), iv (1 : Int32), iv vt, iv (1 : Int32)] [(.int vt), (.ref b119)])) t → Steps p.tables e below (s₁.setTop (entryFrame m #[(.int p0), (.int p1), (.int p2), (.int p3), (.int p4), (.int p5)] maxLocals)) t := by
        intro t kt
        refine pre163 _ ?_
        show Steps p.tables e below (T161.setTop (mkF m 373 #[iv p0, iv p1, iv p2, iv p3, iv p4, iv p5, iv va, iv vb, iv vc, iv (2 : Int32), iv (p4 &&& (7 : Int32)), iv off, rv b119, iv (1 : Int32), iv (0 : Int32), iv (0 : Int32), iv (1 : Int32), iv vt, .unset] [(.int (-1 : Int32)), (.int (own_ix1 vc va vb (0 : Int32) (0 : Int32)))])) _
        refine XS.icmpNo X161.here hx rfl (hb hby at_373) rfl (teq hc373_162).2 ?_
        refine XS.iconst X161.here hx rfl (hb hby at_376) ?_
        refine XS.goto X161.here hx rfl (pc0 := 377) (pc' := 381) rfl (hb hby at_377) (by decide) (by decide) ?_
        refine XS.istore X161.here hx rfl (hb hby at_381) rfl (l' := #[iv p0, iv p1, iv p2, iv p3, iv p4, iv p5, iv va, iv vb, iv vc, iv (2 : Int32), iv (p4 &&& (7 : Int32)), iv off, rv b119, iv (1 : Int32), iv (0 : Int32), iv (0 : Int32), iv (1 : Int32), iv vt, iv (1 : Int32)]) rfl ?_
        refine XS.iload X161.here hx rfl (hb hby at_383) rfl ?_
        refine XS.ifNo X161.here hx rfl (hb hby at_385) rfl ((if0 _ _).trans (feq (by decide)).1) ?_
        refine XS.aload X161.here hx rfl (hb hby at_388) rfl rfl ?_
        refine XS.iload X161.here hx rfl (hb hby at_390) rfl ?_
        exact kt
      obtain ⟨cq165, kq165, q165a, q165b, q165c⟩ := isOf hZ hh161 ((((A119.keep Kc121).keep Kc123).keep Kc125).keep Kc127)
      obtain ⟨_, _, ⟨T165, L165, k165, n165⟩, -, X165, ⟨Lc165, hQ165, l165, y165, z165⟩, st165⟩ := X161.virtualBack hx (y := (⟨"com/example/bytewright/bytewright/grid/ObjectStarts", "add", "(I)I"⟩ : MethodName)) (z := (⟨"com/example/bytewright/bytewright/grid/ObjectStarts", "add", "(I)I"⟩ : MethodName)) hown (mvT hZ (hw _ (List.mem_of_getElem? (i := 13) rfl))) (mvT hZ (hw _ (List.mem_of_getElem? (i := 14) rfl))) (notFace_of_selects (args := #[]) (mvT hZ (hw _ (List.mem_of_getElem? (i := 16) rfl)))) (mvT hZ (hw _ (List.mem_of_getElem? (i := 16) rfl))) (mvT hZ (hw _ (List.mem_of_getElem? (i := 15) rfl))) (by decide) (backOf (W := 0) (rm3c1 l Z a0 hw [] b119 vt ab121 kb121 va vb (0 : Int32) (0 : Int32) T127.heap n0 (Nat.le_trans Z0 K127.1) Fo127 Fn127 ((((A119.keep Kc121).keep Kc123).keep Kc125).keep Kc127) g_b119 Va127 g_ab121 hne121 (Int32.lt_iff_toInt_lt.mpr (by omega))) hZ (hw _ (List.mem_of_getElem? (i := 17) rfl)) (hw _ (List.mem_of_getElem? (i := 3) rfl)) (by decide) (by decide)) q165a q165c (g := (mkF m 392 #[iv p0, iv p1, iv p2, iv p3, iv p4, iv p5, iv va, iv vb, iv vc, iv (2 : Int32), iv (p4 &&& (7 : Int32)), iv off, rv b119, iv (1 : Int32), iv (0 : Int32), iv (0 : Int32), iv (1 : Int32), iv vt, iv (1 : Int32)] [(.int vt), (.ref b119)])) rfl (by rw [hml]; rfl) (Steps.refl _) (argsL := [(.int vt)]) (rest := []) (lenOf pd8 rfl) rfl (by show 2 * 0 + _ ≤ _; exact Nat.le_of_eq rfl) (hb hby at_392) (fun _ _ => ⟨rfl, hh161, (by decide : 2 + 0 ≤ _), (by decide : 18 + 0 ≤ _)⟩)
      dsimp only [Pt.U, Pt.locs, Pt.cells, Pt.slots] at X165 l165 y165 z165 st165 hQ165
      subst l165 y165 z165
      obtain ⟨rfl, N165q, Kc165, Fo165, Fn165, Va165⟩ := hQ165
      have N165 := Fr.app N161 N165q
      have K165 : Keep h0 T165.heap [] := K127.trans Kc165 (allS (Or.inr sz_b119) (allS (Or.inr sz_ab121) all0))
      have pre166 : ∀ t, Steps p.tables e below (T165.setTop (mkF m 405 #[iv p0, iv p1, iv p2, iv p3, iv p4, iv p5, iv va, iv vb, iv vc, iv (2 : Int32), iv (p4 &&& (7 : Int32)), iv off, rv b119, iv (1 : Int32), iv (0 : Int32), iv (0 : Int32), iv (1 : Int32), iv vt, iv (1 : Int32)] [(.int (1 : Int32))])) t → Steps p.tables e below (s₁.setTop (entryFrame m #[(.int p0), (.int p1), (.int p2), (.int p3), (.int p4), (.int p5)] maxLocals)) t := by
        intro t kt
        refine pre164 _ ?_
        show Steps p.tables e below (T161.setTop (mkF m 392 #[iv p0, iv p1, iv p2, iv p3, iv p4, iv p5, iv va, iv vb, iv vc, iv (2 : Int32), iv (p4 &&& (7 : Int32)), iv off, rv b119, iv (1 : Int32), iv (0 : Int32), iv (0 : Int32), iv (1 : Int32), iv vt, iv (1 : Int32)] [(.int vt), (.ref b119)])) _
        refine st165.trans ?_
        show Steps p.tables e below (T165.setTop (mkF m 395 #[iv p0, iv p1, iv p2, iv p3, iv p4, iv p5, iv va, iv vb, iv vc, iv (2 : Int32), iv (p4 &&& (7 : Int32)), iv off, rv b119, iv (1 : Int32), iv (0 : Int32), iv (0 : Int32), iv (1 : Int32), iv vt, iv (1 : Int32)] [(.int (1 : Int32))])) _
        refine XS.iload X165.here hx rfl (hb hby at_395) rfl ?_
        refine XS.icmpNo X165.here hx rfl (hb hby at_397) rfl (teq (by decide)).2 ?_
        refine XS.iconst X165.here hx rfl (hb hby at_400) ?_
        refine XS.goto X165.here hx rfl (pc0 := 401) (pc' := 405) rfl (hb hby at_401) (by decide) (by decide) ?_
        exact kt
      obtain ⟨fs, hr, hrun, hended, hW, hsame⟩ := X165.leave (v := some (.int (1 : Int32))) (fun h => by rw [Bd.returns] at h; cases h)
      refine ⟨_, _, pre166 _ ?_, hrun, hended, _, _, rfl, ?_, ⟨_, rfl⟩, hW, hsame.mono (by decide) (by decide)⟩
      · show Steps p.tables e below (T165.setTop (mkF m 405 #[iv p0, iv p1, iv p2, iv p3, iv p4, iv p5, iv va, iv vb, iv vc, iv (2 : Int32), iv (p4 &&& (7 : Int32)), iv off, rv b119, iv (1 : Int32), iv (0 : Int32), iv (0 : Int32), iv (1 : Int32), iv vt, iv (1 : Int32)] [(.int (1 : Int32))])) _
        exact retN X165 hx (t := .boolean) Bd.returns (by simp) (hb hby at_405) hr
      · show Q0 Z p0 p1 p2 p3 p4 p5 h0 n0 _ T165.heap _
        exact ⟨rfl, N165⟩
    · have hkk := Nat.le_refl 0
      rw [Int32.lt_iff_toInt_lt] at t1
      rw [Int32.lt_iff_toInt_lt] at t0
      have pre168 : ∀ t, Steps p.tables e below (T127.setTop (mkF m 211 #[iv p0, iv p1, iv p2, iv p3, iv p4, iv p5, iv va, iv vb, iv vc, iv (2 : Int32), iv (p4 &&& (7 : Int32)), iv off, rv b119, .unset, .unset, .unset, .unset, .unset, .unset] [(.int off), (.int va)])) t → Steps p.tables e below (s₁.setTop (entryFrame m #[(.int p0), (.int p1), (.int p2), (.int p3), (.int p4), (.int p5)] maxLocals)) t := by
        intro t kt
        refine pre128 _ ?_
        show Steps p.tables e below (T127.setTop (mkF m 201 #[iv p0, iv p1, iv p2, iv p3, iv p4, iv p5, iv va, iv vb, iv vc, iv (2 : Int32), iv (p4 &&& (7 : Int32)), iv off, rv b119, .unset, .unset, .unset, .unset, .unset, .unset] [])) _
        refine XS.iload X127.here hx rfl (hb hby at_201) rfl ?_
        refine XS.iconst X127.here hx rfl (hb hby at_203) ?_
        refine XS.icmpNo X127.here hx rfl (hb hby at_204) rfl (flt (by decide)).1 ?_
        refine XS.iload X127.here hx rfl (hb hby at_207) rfl ?_
        refine XS.iload X127.here hx rfl (hb hby at_209) rfl ?_
        exact kt
      have hc211_167 : ¬ (va < off) := by rw [Int32.lt_iff_toInt_lt]; omega
      have pre170 : ∀ t, Steps p.tables e below (T127.setTop (mkF m 231 #[iv p0, iv p1, iv p2, iv p3, iv p4, iv p5, iv va, iv vb, iv vc, iv (2 : Int32), iv (p4 &&& (7 : Int32)), iv off, rv b119, iv (0 : Int32), .unset, .unset, .unset, .unset, .unset] [(.int off), (.int vb)])) t → Steps p.tables e below (s₁.setTop (entryFrame m #[(.int p0), (.int p1), (.int p2), (.int p3), (.int p4), (.int p5)] maxLocals)) t := by
        intro t kt
        refine pre168 _ ?_
        show Steps p.tables e below (T127.setTop (mkF m 211 #[iv p0, iv p1, iv p2, iv p3, iv p4, iv p5, iv va, iv vb, iv vc, iv (2 : Int32), iv (p4 &&& (7 : Int32)), iv off, rv b119, .unset, .unset, .unset, .unset, .unset, .unset] [(.int off), (.int va)])) _
        refine XS.icmpYes X127.here hx rfl (pc0 := 211) (pc' := 218) rfl (hb hby at_211) rfl (flt hc211_167).2.1 (by decide) (by decide) ?_
        refine XS.iconst X127.here hx rfl (hb hby at_218) ?_
        refine XS.istore X127.here hx rfl (hb hby at_219) rfl (l' := #[iv p0, iv p1, iv p2, iv p3, iv p4, iv p5, iv va, iv vb, iv vc, iv (2 : Int32), iv (p4 &&& (7 : Int32)), iv off, rv b119, iv (0 : Int32), .unset, .unset, .unset, .unset, .unset]) rfl ?_
        refine XS.iload X127.here hx rfl (hb hby at_221) rfl ?_
        refine XS.iconst X127.here hx rfl (hb hby at_223) ?_
        refine XS.icmpNo X127.here hx rfl (hb hby at_224) rfl (flt (by decide)).1 ?_
        refine XS.iload X127.here hx rfl (hb hby at_227) rfl ?_
        refine XS.iload X127.here hx rfl (hb hby at_229) rfl ?_
        exact kt
      have hc231_169 : ¬ (vb < off) := by rw [Int32.lt_iff_toInt_lt]; omega
      obtain ⟨vt, h_vt⟩ : ∃ z : Int32, z = (vc + (1 : Int32)) := ⟨_, rfl⟩
      have hvt := own_next vc vt h_vt (by omega)
      have pre171 : ∀ t, Steps p.tables e below (T127.setTop (mkF m 310 #[iv p0, iv p1, iv p2, iv p3, iv p4, iv p5, iv va, iv vb, iv vc, iv (2 : Int32), iv (p4 &&& (7 : Int32)), iv off, rv b119, iv (0 : Int32), iv (0 : Int32), iv (0 : Int32), iv (0 : Int32), iv vt, .unset] [(.int (vt - va)), (.int vt), (.ref b119)])) t → Steps p.tables e below (s₁.setTop (entryFrame m #[(.int p0), (.int p1), (.int p2), (.int p3), (.int p4), (.int p5)] maxLocals)) t := by
        intro t kt
        refine pre170 _ ?_
        show Steps p.tables e below (T127.setTop (mkF m 231 #[iv p0, iv p1, iv p2, iv p3, iv p4, iv p5, iv va, iv vb, iv vc, iv (2 : Int32), iv (p4 &&& (7 : Int32)), iv off, rv b119, iv (0 : Int32), .unset, .unset, .unset, .unset, .unset] [(.int off), (.int vb)])) _
        refine XS.icmpYes X127.here hx rfl (pc0 := 231) (pc' := 238) rfl (hb hby at_231) rfl (flt hc231_169).2.1 (by decide) (by decide) ?_
        refine XS.iconst X127.here hx rfl (hb hby at_238) ?_
        refine XS.istore X127.here hx rfl (hb hby at_239) rfl (l' := #[iv p0, iv p1, iv p2, iv p3, iv p4, iv p5, iv va, iv vb, iv vc, iv (2 : Int32), iv (p4 &&& (7 : Int32)), iv off, rv b119, iv (0 : Int32), iv (0 : Int32), .unset, .unset, .unset, .unset]) rfl ?_
        refine XS.iload X127.here hx rfl (hb hby at_241) rfl ?_
        refine XS.iconst X127.here hx rfl (hb hby at_243) ?_
        refine XS.icmpYes X127.here hx rfl (pc0 := 244) (pc' := 258) rfl (hb hby at_244) rfl (tlt (by decide)).1 (by decide) (by decide) ?_
        refine XS.iconst X127.here hx rfl (hb hby at_258) ?_
        refine XS.istore X127.here hx rfl (hb hby at_259) rfl (l' := #[iv p0, iv p1, iv p2, iv p3, iv p4, iv p5, iv va, iv vb, iv vc, iv (2 : Int32), iv (p4 &&& (7 : Int32)), iv off, rv b119, iv (0 : Int32), iv (0 : Int32), iv (0 : Int32), .unset, .unset, .unset]) rfl ?_
        show Steps p.tables e below (T127.setTop (mkF m 261 #[iv p0, iv p1, iv p2, iv p3, iv p4, iv p5, iv va, iv vb, iv vc, iv (2 : Int32), iv (p4 &&& (7 : Int32)), iv off, rv b119, iv (0 : Int32), iv (0 : Int32), iv (0 : Int32), .unset, .unset, .unset] [])) _
        refine XS.iload X127.here hx rfl (hb hby at_261) rfl ?_
        refine XS.ifYes X127.here hx rfl (pc0 := 263) (pc' := 270) rfl (hb hby at_263) rfl ((if0 _ _).trans (teq (by decide)).1) (by decide) (by decide) ?_
        refine XS.iconst X127.here hx rfl (hb hby at_270) ?_
        refine XS.iload X127.here hx rfl (hb hby at_271) rfl ?_
        refine XS.ifYes X127.here hx rfl (pc0 := 273) (pc' := 280) rfl (hb hby at_273) rfl ((if0 _ _).trans (teq (by decide)).1) (by decide) (by decide) ?_
        refine XS.iconst X127.here hx rfl (hb hby at_280) ?_
        refine XS.iadd X127.here hx rfl (hb hby at_281) rfl ?_
        show Steps p.tables e below (T127.setTop (mkF m 282 #[iv p0, iv p1, iv p2, iv p3, iv p4, iv p5, iv va, iv vb, iv vc, iv (2 : Int32), iv (p4 &&& (7 : Int32)), iv off, rv b119, iv (0 : Int32), iv (0 : Int32), iv (0 : Int32), .unset, .unset, .unset] [(.int ((0 : Int32) + (0 : Int32)))])) _
        rw [show ((0 : Int32) + (0 : Int32)) = (0 : Int32) from (by decide)]
        show Steps p.tables e below (T127.setTop (mkF m 282 #[iv p0, iv p1, iv p2, iv p3, iv p4, iv p5, iv va, iv vb, iv vc, iv (2 : Int32), iv (p4 &&& (7 : Int32)), iv off, rv b119, iv (0 : Int32), iv (0 : Int32), iv (0 : Int32), .unset, .unset, .unset] [(.int (0 : Int32))])) _
        refine XS.iload X127.here hx rfl (hb hby at_282) rfl ?_
        refine XS.ifYes X127.here hx rfl (pc0 := 284) (pc' := 291) rfl (hb hby at_284) rfl ((if0 _ _).trans (teq (by decide)).1) (by decide) (by decide) ?_
        refine XS.iconst X127.here hx rfl (hb hby at_291) ?_
        refine XS.iadd X127.here hx rfl (hb hby at_292) rfl ?_
        show Steps p.tables e below (T127.setTop (mkF m 293 #[iv p0, iv p1, iv p2, iv p3, iv p4, iv p5, iv va, iv vb, iv vc, iv (2 : Int32), iv (p4 &&& (7 : Int32)), iv off, rv b119, iv (0 : Int32), iv (0 : Int32), iv (0 : Int32), .unset, .unset, .unset] [(.int ((0 : Int32) + (0 : Int32)))])) _
        rw [show ((0 : Int32) + (0 : Int32)) = (0 : Int32) from (by decide)]
        show Steps p.tables e below (T127.setTop (mkF m 293 #[iv p0, iv p1, iv p2, iv p3, iv p4, iv p5, iv va, iv vb, iv vc, iv (2 : Int32), iv (p4 &&& (7 : Int32)), iv off, rv b119, iv (0 : Int32), iv (0 : Int32), iv (0 : Int32), .unset, .unset, .unset] [(.int (0 : Int32))])) _
        refine XS.istore X127.here hx rfl (hb hby at_293) rfl (l' := #[iv p0, iv p1, iv p2, iv p3, iv p4, iv p5, iv va, iv vb, iv vc, iv (2 : Int32), iv (p4 &&& (7 : Int32)), iv off, rv b119, iv (0 : Int32), iv (0 : Int32), iv (0 : Int32), iv (0 : Int32), .unset, .unset]) rfl ?_
        refine XS.iload X127.here hx rfl (hb hby at_295) rfl ?_
        refine XS.iconst X127.here hx rfl (hb hby at_297) ?_
        refine XS.iadd X127.here hx rfl (hb hby at_298) rfl ?_
        refine XS.istore X127.here hx rfl (hb hby at_299) rfl (l' := #[iv p0, iv p1, iv p2, iv p3, iv p4, iv p5, iv va, iv vb, iv vc, iv (2 : Int32), iv (p4 &&& (7 : Int32)), iv off, rv b119, iv (0 : Int32), iv (0 : Int32), iv (0 : Int32), iv (0 : Int32), iv (vc + (1 : Int32)), .unset]) rfl ?_
        show Steps p.tables e below (T127.setTop (mkF m 301 #[iv p0, iv p1, iv p2, iv p3, iv p4, iv p5, iv va, iv vb, iv vc, iv (2 : Int32), iv (p4 &&& (7 : Int32)), iv off, rv b119, iv (0 : Int32), iv (0 : Int32), iv (0 : Int32), iv (0 : Int32), iv (vc + (1 : Int32)), .unset] [])) _
        rw [← h_vt]
        show Steps p.tables e below (T127.setTop (mkF m 301 #[iv p0, iv p1, iv p2, iv p3, iv p4, iv p5, iv va, iv vb, iv vc, iv (2 : Int32), iv (p4 &&& (7 : Int32)), iv off, rv b119, iv (0 : Int32), iv (0 : Int32), iv (0 : Int32), iv (0 : Int32), iv vt, .unset] [])) _
        refine XS.aload X127.here hx rfl (hb hby at_301) rfl rfl ?_
        refine XS.iload X127.here hx rfl (hb hby at_303) rfl ?_
        refine XS.iload X127.here hx rfl (hb hby at_305) rfl ?_
        refine XS.iload X127.here hx rfl (hb hby at_307) rfl ?_
        refine XS.isub X127.here hx rfl (hb hby at_309) rfl ?_
        exact kt
      obtain ⟨cq172, kq172, q172a, q172b, q172c⟩ := isOf hZ rfl ((((A119.keep Kc121).keep Kc123).keep Kc125).keep Kc127)
      obtain ⟨_, _, ⟨T172, L172, k172, n172⟩, -, X172, ⟨Lc172, hQ172, l172, y172, z172⟩, st172⟩ := X127.virtualBack hx (y := (⟨"com/example/bytewright/bytewright/grid/ObjectStarts", "indexOf", "(II)I"⟩ : MethodName)) (z := (⟨"com/example/bytewright/bytewright/grid/ObjectStarts", "indexOf", "(II)I"⟩ : MethodName)) hown (mvT hZ (hw _ (List.mem_of_getElem? (i := 25) rfl))) (mvT hZ (hw _ (List.mem_of_getElem? (i := 26) rfl))) (notFace_of_selects (args := #[]) (mvT hZ (hw _ (List.mem_of_getElem? (i := 28) rfl)))) (mvT hZ (hw _ (List.mem_of_getElem? (i := 28) rfl))) (mvT hZ (hw _ (List.mem_of_getElem? (i := 27) rfl))) (by decide) (backOf (W := 0) (rm5c0 l Z a0 hw [] b119 vt (vt - va) ab121 kb121 va vb (0 : Int32) (0 : Int32) va T127.heap n0 (Nat.le_trans Z0 K127.1) Fo127 Fn127 ((((A119.keep Kc121).keep Kc123).keep Kc125).keep Kc127) Va127 hne121 (own_key vt va (by have := own_next vc vt h_vt (by omega); omega)).1 (own_key vt va (by have := own_next vc vt h_vt (by omega); omega)).2.1 (own_key vt va (by have := own_next vc vt h_vt (by omega); omega)).2.2) hZ (hw _ (List.mem_of_getElem? (i := 29) rfl)) (hw _ (List.mem_of_getElem? (i := 3) rfl)) (by decide) (by decide)) q172a q172c (g := (mkF m 310 #[iv p0, iv p1, iv p2, iv p3, iv p4, iv p5, iv va, iv vb, iv vc, iv (2 : Int32), iv (p4 &&& (7 : Int32)), iv off, rv b119, iv (0 : Int32), iv (0 : Int32), iv (0 : Int32), iv (0 : Int32), iv vt, .unset] [(.int (vt - va)), (.int vt), (.ref b119)])) rfl (by rw [hml]; rfl) (Steps.refl _) (argsL := [(.int vt), (.int (vt - va))]) (rest := []) (lenOf pd7 rfl) rfl (by show 2 * 0 + _ ≤ _; exact Nat.le_of_eq rfl) (hb hby at_310) (fun _ _ => ⟨rfl, rfl, (by decide : 2 + 0 ≤ _), (by decide : 18 + 0 ≤ _)⟩)
      dsimp only [Pt.U, Pt.locs, Pt.cells, Pt.slots] at X172 l172 y172 z172 st172 hQ172
      subst l172 y172 z172
      obtain ⟨rfl, N172q, hh172⟩ := hQ172
      have N172 := Fr.app N127 N172q
      have pre174 : ∀ t, Steps p.tables e below (T172.setTop (mkF m 323 #[iv p0, iv p1, iv p2, iv p3, iv p4, iv p5, iv va, iv vb, iv vc, iv (2 : Int32), iv (p4 &&& (7 : Int32)), iv off, rv b119, iv (0 : Int32), iv (0 : Int32), iv (0 : Int32), iv (0 : Int32), iv vt, .unset] [(.int (-1 : Int32)), (.int (own_ix0 va va vb (0 : Int32) (0 : Int32)))])) t → Steps p.tables e below (s₁.setTop (entryFrame m #[(.int p0), (.int p1), (.int p2), (.int p3), (.int p4), (.int p5)] maxLocals)) t := by
        intro t kt
        refine pre171 _ ?_
        show Steps p.tables e below (T127.setTop (mkF m 310 #[iv p0, iv p1, iv p2, iv p3, iv p4, iv p5, iv va, iv vb, iv vc, iv (2 : Int32), iv (p4 &&& (7 : Int32)), iv off, rv b119, iv (0 : Int32), iv (0 : Int32), iv (0 : Int32), iv (0 : Int32), iv vt, .unset] [(.int (vt - va)), (.int vt), (.ref b119)])) _
        refine st172.trans ?_
        show Steps p.tables e below (T172.setTop (mkF m 313 #[iv p0, iv p1, iv p2, iv p3, iv p4, iv p5, iv va, iv vb, iv vc, iv (2 : Int32), iv (p4 &&& (7 : Int32)), iv off, rv b119, iv (0 : Int32), iv (0 : Int32), iv (0 : Int32), iv (0 : Int32), iv vt, .unset] [(.int (own_ix0 va va vb (0 : Int32) (0 : Int32)))])) _
        refine XS.iload X172.here hx rfl (hb hby at_313) rfl ?_
        refine XS.ifYes X172.here hx rfl (pc0 := 315) (pc' := 322) rfl (hb hby at_315) rfl ((if0 _ _).trans (teq (by decide)).1) (by decide) (by decide) ?_
        refine XS.iconst X172.here hx rfl (hb hby at_322) ?_
        exact kt
      have hc323_173 : (own_ix0 va va vb (0 : Int32) (0 : Int32)) = (-1 : Int32) := by simp +decide [own_ix0, own_bs0, hab, hbc, hac, nba, ncb, nca, Int32.lt_irrefl]
      have pre175 : ∀ t, Steps p.tables e below (T172.setTop (mkF m 335 #[iv p0, iv p1, iv p2, iv p3, iv p4, iv p5, iv va, iv vb, iv vc, iv (2 : Int32), iv (p4 &&& (7 : Int32)), iv off, rv b119, iv (0 : Int32), iv (0 : Int32), iv (0 : Int32), iv (0 : Int32), iv vt, .unset] [(.int (vt - vb)), (.int vt), (.ref b119)])) t → Steps p.tables e below (s₁.setTop (entryFrame m #[(.int p0), (.int p1), (.int p2), (.int p3), (.int p4), (.int p5)] maxLocals)) t := by
        intro t kt
        refine pre174 _ ?_
        show Steps p.tables e below (T172.setTop (mkF m 323 #[iv p0, iv p1, iv p2, iv p3, iv p4, iv p5, iv va, iv vb, iv vc, iv (2 : Int32), iv (p4 &&& (7 : Int32)), iv off, rv b119, iv (0 : Int32), iv (0 : Int32), iv (0 : Int32), iv (0 : Int32), iv vt, .unset] [(.int (-1 : Int32)), (.int (own_ix0 va va vb (0 : Int32) (0 : Int32)))])) _
        refine XS.icmpNo X172.here hx rfl (hb hby at_323) rfl (teq hc323_173).2 ?_
        refine XS.aload X172.here hx rfl (hb hby at_326) rfl rfl ?_
        refine XS.iload X172.here hx rfl (hb hby at_328) rfl ?_
        refine XS.iload X172.here hx rfl (hb hby at_330) rfl ?_
        refine XS.iload X172.here hx rfl (hb hby at_332) rfl ?_
        refine XS.isub X172.here hx rfl (hb hby at_334) rfl ?_
        exact kt
      obtain ⟨cq176, kq176, q176a, q176b, q176c⟩ := isOf hZ hh172 ((((A119.keep Kc121).keep Kc123).keep Kc125).keep Kc127)
      obtain ⟨_, _, ⟨T176, L176, k176, n176⟩, -, X176, ⟨Lc176, hQ176, l176, y176, z176⟩, st176⟩ := X172.virtualBack hx (y := (⟨"com/example/bytewright/bytewright/grid/ObjectStarts", "indexOf", "(II)I"⟩ : MethodName)) (z := (⟨"com/example/bytewright/bytewright/grid/ObjectStarts", "indexOf", "(II)I"⟩ : MethodName)) hown (mvT hZ (hw _ (List.mem_of_getElem? (i := 25) rfl))) (mvT hZ (hw _ (List.mem_of_getElem? (i := 26) rfl))) (notFace_of_selects (args := #[]) (mvT hZ (hw _ (List.mem_of_getElem? (i := 28) rfl)))) (mvT hZ (hw _ (List.mem_of_getElem? (i := 28) rfl))) (mvT hZ (hw _ (List.mem_of_getElem? (i := 27) rfl))) (by decide) (backOf (W := 0) (rm5c0 l Z a0 hw [] b119 vt (vt - vb) ab121 kb121 va vb (0 : Int32) (0 : Int32) vb T127.heap n0 (Nat.le_trans Z0 K127.1) Fo127 Fn127 ((((A119.keep Kc121).keep Kc123).keep Kc125).keep Kc127) Va127 hne121 (own_key vt vb (by have := own_next vc vt h_vt (by omega); omega)).1 (own_key vt vb (by have := own_next vc vt h_vt (by omega); omega)).2.1 (own_key vt vb (by have := own_next vc vt h_vt (by omega); omega)).2.2) hZ (hw _ (List.mem_of_getElem? (i := 29) rfl)) (hw _ (List.mem_of_getElem? (i := 3) rfl)) (by decide) (by decide)) q176a q176c (g := (mkF m 335 #[iv p0, iv p1, iv p2, iv p3, iv p4, iv p5, iv va, iv vb, iv vc, iv (2 : Int32), iv (p4 &&& (7 : Int32)), iv off, rv b119, iv (0 : Int32), iv (0 : Int32), iv (0 : Int32), iv (0 : Int32), iv vt, .unset] [(.int (vt - vb)), (.int vt), (.ref b119)])) rfl (by rw [hml]; rfl) (Steps.refl _) (argsL := [(.int vt), (.int (vt - vb))]) (rest := []) (lenOf pd7 rfl) rfl (by show 2 * 0 + _ ≤ _; exact Nat.le_of_eq rfl) (hb hby at_335) (fun _ _ => ⟨rfl, hh172, (by decide : 2 + 0 ≤ _), (by decide : 18 + 0 ≤ _)⟩)
      dsimp only [Pt.U, Pt.locs, Pt.cells, Pt.slots] at X176 l176 y176 z176 st176 hQ176
      subst l176 y176 z176
      obtain ⟨rfl, N176q, hh176⟩ := hQ176
      have N176 := Fr.app N172 N176q
      have pre178 : ∀ t, Steps p.tables e below (T176.setTop (mkF m 348 #[iv p0, iv p1, iv p2, iv p3, iv p4, iv p5, iv va, iv vb, iv vc, iv (2 : Int32), iv (p4 &&& (7 : Int32)), iv off, rv b119, iv (0 : Int32), iv (0 : Int32), iv (0 : Int32), iv (0 : Int32), iv vt, .unset] [(.int (-1 : Int32)), (.int (own_ix0 vb va vb (0 : Int32) (0 : Int32)))])) t → Steps p.tables e below (s₁.setTop (entryFrame m #[(.int p0), (.int p1), (.int p2), (.int p3), (.int p4), (.int p5)] maxLocals)) t := by
        intro t kt
        refine pre175 _ ?_
        show Steps p.tables e below (T172.setTop (mkF m 335 #[iv p0, iv p1, iv p2, iv p3, iv p4, iv p5, iv va, iv vb, iv vc, iv (2 : Int32), iv (p4 &&& (7 : Int32)), iv off, rv b119, iv (0 : Int32), iv (0 : Int32), iv (0 : Int32), iv (0 : Int32), iv vt, .unset] [(.int (vt - vb)), (.int vt), (.ref b119)])) _
        refine st176.trans ?_
        show Steps p.tables e below (T176.setTop (mkF m 338 #[iv p0, iv p1, iv p2, iv p3, iv p4, iv p5, iv va, iv vb, iv vc, iv (2 : Int32), iv (p4 &&& (7 : Int32)), iv off, rv b119, iv (0 : Int32), iv (0 : Int32), iv (0 : Int32), iv (0 : Int32), iv vt, .unset] [(.int (own_ix0 vb va vb (0 : Int32) (0 : Int32)))])) _
        refine XS.iload X176.here hx rfl (hb hby at_338) rfl ?_
        refine XS.ifYes X176.here hx rfl (pc0 := 340) (pc' := 347) rfl (hb hby at_340) rfl ((if0 _ _).trans (teq (by decide)).1) (by decide) (by decide) ?_
        refine XS.iconst X176.here hx rfl (hb hby at_347) ?_
        exact kt
      have hc348_177 : (own_ix0 vb va vb (0 : Int32) (0 : Int32)) = (-1 : Int32) := by simp +decide [own_ix0, own_bs0, hab, hbc, hac, nba, ncb, nca, Int32.lt_irrefl]
      have pre179 : ∀ t, Steps p.tables e below (T176.setTop (mkF m 360 #[iv p0, iv p1, iv p2, iv p3, iv p4, iv p5, iv va, iv vb, iv vc, iv (2 : Int32), iv (p4 &&& (7 : Int32)), iv off, rv b119, iv (0 : Int32), iv (0 : Int32), iv (0 : Int32), iv (0 : Int32), iv vt, .unset] [(.int (vt - vc)), (.int vt), (.ref b119)])) t → Steps p.tables e below (s₁.setTop (entryFrame m #[(.int p0), (.int p1), (.int p2), (.int p3), (.int p4), (.int p5)] maxLocals)) t := by
        intro t kt
        refine pre178 _ ?_
        show Steps p.tables e below (T176.setTop (mkF m 348 #[iv p0, iv p1, iv p2, iv p3, iv p4, iv p5, iv va, iv vb, iv vc, iv (2 : Int32), iv (p4 &&& (7 : Int32)), iv off, rv b119, iv (0 : Int32), iv (0 : Int32), iv (0 : Int32), iv (0 : Int32), iv vt, .unset] [(.int (-1 : Int32)), (.int (own_ix0 vb va vb (0 : Int32) (0 : Int32)))])) _
        refine XS.icmpNo X176.here hx rfl (hb hby at_348) rfl (teq hc348_177).2 ?_
        refine XS.aload X176.here hx rfl (hb hby at_351) rfl rfl ?_
        refine XS.iload X176.here hx rfl (hb hby at_353) rfl ?_
        refine XS.iload X176.here hx rfl (hb hby at_355) rfl ?_
        refine XS.iload X176.here hx rfl (hb hby at_357) rfl ?_
        refine XS.isub X176.here hx rfl (hb hby at_359) rfl ?_
        exact kt
      obtain ⟨cq180, kq180, q180a, q180b, q180c⟩ := isOf hZ hh176 ((((A119.keep Kc121).keep Kc123).keep Kc125).keep Kc127)
      obtain ⟨_, _, ⟨T180, L180, k180, n180⟩, -, X180, ⟨Lc180, hQ180, l180, y180, z180⟩, st180⟩ := X176.virtualBack hx (y := (⟨"com/example/bytewright/bytewright/grid/ObjectStarts", "indexOf", "(II)I"⟩ : MethodName)) (z := (⟨"com/example/bytewright/bytewright/grid/ObjectStarts", "indexOf", "(II)I"⟩ : MethodName)) hown (mvT hZ (hw _ (List.mem_of_getElem? (i := 25) rfl))) (mvT hZ (hw _ (List.mem_of_getElem? (i := 26) rfl))) (notFace_of_selects (args := #[]) (mvT hZ (hw _ (List.mem_of_getElem? (i := 28) rfl)))) (mvT hZ (hw _ (List.mem_of_getElem? (i := 28) rfl))) (mvT hZ (hw _ (List.mem_of_getElem? (i := 27) rfl))) (by decide) (backOf (W := 0) (rm5c0 l Z a0 hw [] b119 vt (vt - vc) ab121 kb121 va vb (0 : Int32) (0 : Int32) vc T127.heap n0 (Nat.le_trans Z0 K127.1) Fo127 Fn127 ((((A119.keep Kc121).keep Kc123).keep Kc125).keep Kc127) Va127 hne121 (own_key vt vc (by have := own_next vc vt h_vt (by omega); omega)).1 (own_key vt vc (by have := own_next vc vt h_vt (by omega); omega)).2.1 (own_key vt vc (by have := own_next vc vt h_vt (by omega); omega)).2.2) hZ (hw _ (List.mem_of_getElem? (i := 29) rfl)) (hw _ (List.mem_of_getElem? (i := 3) rfl)) (by decide) (by decide)) q180a q180c (g := (mkF m 360 #[iv p0, iv p1, iv p2, iv p3, iv p4, iv p5, iv va, iv vb, iv vc, iv (2 : Int32), iv (p4 &&& (7 : Int32)), iv off, rv b119, iv (0 : Int32), iv (0 : Int32), iv (0 : Int32), iv (0 : Int32), iv vt, .unset] [(.int (vt - vc)), (.int vt), (.ref b119)])) rfl (by rw [hml]; rfl) (Steps.refl _) (argsL := [(.int vt), (.int (vt - vc))]) (rest := []) (lenOf pd7 rfl) rfl (by show 2 * 0 + _ ≤ _; exact Nat.le_of_eq rfl) (hb hby at_360) (fun _ _ => ⟨rfl, hh176, (by decide : 2 + 0 ≤ _), (by decide : 18 + 0 ≤ _)⟩)
      dsimp only [Pt.U, Pt.locs, Pt.cells, Pt.slots] at X180 l180 y180 z180 st180 hQ180
      subst l180 y180 z180
      obtain ⟨rfl, N180q, hh180⟩ := hQ180
      have N180 := Fr.app N176 N180q
      have pre182 : ∀ t, Steps p.tables e below (T180.setTop (mkF m 373 #[iv p0, iv p1, iv p2, iv p3, iv p4, iv p5, iv va, iv vb, iv vc, iv (2 : Int32), iv (p4 &&& (7 : Int32)), iv off, rv b119, iv (0 : Int32), iv (0 : Int32), iv (0 : Int32), iv (0 : Int32), iv vt, .unset] [(.int (-1 : Int32)), (.int (own_ix0 vc va vb (0 : Int32) (0 : Int32)))])) t → Steps p.tables e below (s₁.setTop (entryFrame m #[(.int p0), (.int p1), (.int p2), (.int p3), (.int p4), (.int p5)] maxLocals)) t := by
        intro t kt
        refine pre179 _ ?_
        show Steps p.tables e below (T176.setTop (mkF m 360 #[iv p0, iv p1, iv p2, iv p3, iv p4, iv p5, iv va, iv vb, iv vc, iv (2 : Int32), iv (p4 &&& (7 : Int32)), iv off, rv b119, iv (0 : Int32), iv (0 : Int32), iv (0 : Int32), iv (0 : Int32), iv vt, .unset] [(.int (vt - vc)), (.int vt), (.ref b119)])) _
        refine st180.trans ?_
        show Steps p.tables e below (T180.setTop (mkF m 363 #[iv p0, iv p1, iv p2, iv p3, iv p4, iv p5, iv va, iv vb, iv vc, iv (2 : Int32), iv (p4 &&& (7 : Int32)), iv off, rv b119, iv (0 : Int32), iv (0 : Int32), iv (0 : Int32), iv (0 : Int32), iv vt, .unset] [(.int (own_ix0 vc va vb (0 : Int32) (0 : Int32)))])) _
        refine XS.iload X180.here hx rfl (hb hby at_363) rfl ?_
        refine XS.ifYes X180.here hx rfl (pc0 := 365) (pc' := 372) rfl (hb hby at_365) rfl ((if0 _ _).trans (teq (by decide)).1) (by decide) (by decide) ?_
        refine XS.iconst X180.here hx rfl (hb hby at_372) ?_
        exact kt
      have hc373_181 : (own_ix0 vc va vb (0 : Int32) (0 : Int32)) = (-1 : Int32) := by simp +decide [own_ix0, own_bs0, hab, hbc, hac, nba, ncb, nca, Int32.lt_irrefl]
      have pre183 : ∀ t, Steps p.tables e below (T180.setTop (mkF m 392 #[iv p0, iv p1, iv p2, iv p3, iv p4, iv p5, iv va, iv vb, iv vc, iv (2 : Int32), iv (p4 &&& (7 : Int32)), iv off, rv b119, iv (0 : Int32), iv (0 : Int32), iv (0 : Int32), iv (0 : Int32), iv vt, iv (1 : Int32)] [(.int vt), (.ref b119)])) t → Steps p.tables e below (s₁.setTop (entryFrame m #[(.int p0), (.int p1), (.int p2), (.int p3), (.int p4), (.int p5)] maxLocals)) t := by
        intro t kt
        refine pre182 _ ?_
        show Steps p.tables e below (T180.setTop (mkF m 373 #[iv p0, iv p1, iv p2, iv p3, iv p4, iv p5, iv va, iv vb, iv vc, iv (2 : Int32), iv (p4 &&& (7 : Int32)), iv off, rv b119, iv (0 : Int32), iv (0 : Int32), iv (0 : Int32), iv (0 : Int32), iv vt, .unset] [(.int (-1 : Int32)), (.int (own_ix0 vc va vb (0 : Int32) (0 : Int32)))])) _
        refine XS.icmpNo X180.here hx rfl (hb hby at_373) rfl (teq hc373_181).2 ?_
        refine XS.iconst X180.here hx rfl (hb hby at_376) ?_
        refine XS.goto X180.here hx rfl (pc0 := 377) (pc' := 381) rfl (hb hby at_377) (by decide) (by decide) ?_
        refine XS.istore X180.here hx rfl (hb hby at_381) rfl (l' := #[iv p0, iv p1, iv p2, iv p3, iv p4, iv p5, iv va, iv vb, iv vc, iv (2 : Int32), iv (p4 &&& (7 : Int32)), iv off, rv b119, iv (0 : Int32), iv (0 : Int32), iv (0 : Int32), iv (0 : Int32), iv vt, iv (1 : Int32)]) rfl ?_
        refine XS.iload X180.here hx rfl (hb hby at_383) rfl ?_
        refine XS.ifNo X180.here hx rfl (hb hby at_385) rfl ((if0 _ _).trans (feq (by decide)).1) ?_
        refine XS.aload X180.here hx rfl (hb hby at_388) rfl rfl ?_
        refine XS.iload X180.here hx rfl (hb hby at_390) rfl ?_
        exact kt
      obtain ⟨cq184, kq184, q184a, q184b, q184c⟩ := isOf hZ hh180 ((((A119.keep Kc121).keep Kc123).keep Kc125).keep Kc127)
      obtain ⟨_, _, ⟨T184, L184, k184, n184⟩, -, X184, ⟨Lc184, hQ184, l184, y184, z184⟩, st184⟩ := X180.virtualBack hx (y := (⟨"com/example/bytewright/bytewright/grid/ObjectStarts", "add", "(I)I"⟩ : MethodName)) (z := (⟨"com/example/bytewright/bytewright/grid/ObjectStarts", "add", "(I)I"⟩ : MethodName)) hown (mvT hZ (hw _ (List.mem_of_getElem? (i := 13) rfl))) (mvT hZ (hw _ (List.mem_of_getElem? (i := 14) rfl))) (notFace_of_selects (args := #[]) (mvT hZ (hw _ (List.mem_of_getElem? (i := 16) rfl)))) (mvT hZ (hw _ (List.mem_of_getElem? (i := 16) rfl))) (mvT hZ (hw _ (List.mem_of_getElem? (i := 15) rfl))) (by decide) (backOf (W := 0) (rm3c0 l Z a0 hw [] b119 vt ab121 kb121 va vb (0 : Int32) (0 : Int32) T127.heap n0 (Nat.le_trans Z0 K127.1) Fo127 Fn127 ((((A119.keep Kc121).keep Kc123).keep Kc125).keep Kc127) g_b119 Va127 g_ab121 hne121) hZ (hw _ (List.mem_of_getElem? (i := 17) rfl)) (hw _ (List.mem_of_getElem? (i := 3) rfl)) (by decide) (by decide)) q184a q184c (g := (mkF m 392 #[iv p0, iv p1, iv p2, iv p3, iv p4, iv p5, iv va, iv vb, iv vc, iv (2 : Int32), iv (p4 &&& (7 : Int32)), iv off, rv b119, iv (0 : Int32), iv (0 : Int32), iv (0 : Int32), iv (0 : Int32), iv vt, iv (1 : Int32)] [(.int vt), (.ref b119)])) rfl (by rw [hml]; rfl) (Steps.refl _) (argsL := [(.int vt)]) (rest := []) (lenOf pd8 rfl) rfl (by show 2 * 0 + _ ≤ _; exact Nat.le_of_eq rfl) (hb hby at_392) (fun _ _ => ⟨rfl, hh180, (by decide : 2 + 0 ≤ _), (by decide : 18 + 0 ≤ _)⟩)
      dsimp only [Pt.U, Pt.locs, Pt.cells, Pt.slots] at X184 l184 y184 z184 st184 hQ184
      subst l184 y184 z184
      obtain ⟨rfl, N184q, Kc184, Fo184, Fn184, Va184⟩ := hQ184
      have N184 := Fr.app N180 N184q
      have K184 : Keep h0 T184.heap [] := K127.trans Kc184 (allS (Or.inr sz_b119) (allS (Or.inr sz_ab121) all0))
      have pre185 : ∀ t, Steps p.tables e below (T184.setTop (mkF m 405 #[iv p0, iv p1, iv p2, iv p3, iv p4, iv p5, iv va, iv vb, iv vc, iv (2 : Int32), iv (p4 &&& (7 : Int32)), iv off, rv b119, iv (0 : Int32), iv (0 : Int32), iv (0 : Int32), iv (0 : Int32), iv vt, iv (1 : Int32)] [(.int (1 : Int32))])) t → Steps p.tables e below (s₁.setTop (entryFrame m #[(.int p0), (.int p1), (.int p2), (.int p3), (.int p4), (.int p5)] maxLocals)) t := by
        intro t kt
        refine pre183 _ ?_
        show Steps p.tables e below (T180.setTop (mkF m 392 #[iv p0, iv p1, iv p2, iv p3, iv p4, iv p5, iv va, iv vb, iv vc, iv (2 : Int32), iv (p4 &&& (7 : Int32)), iv off, rv b119, iv (0 : Int32), iv (0 : Int32), iv (0 : Int32), iv (0 : Int32), iv vt, iv (1 : Int32)] [(.int vt), (.ref b119)])) _
        refine st184.trans ?_
        show Steps p.tables e below (T184.setTop (mkF m 395 #[iv p0, iv p1, iv p2, iv p3, iv p4, iv p5, iv va, iv vb, iv vc, iv (2 : Int32), iv (p4 &&& (7 : Int32)), iv off, rv b119, iv (0 : Int32), iv (0 : Int32), iv (0 : Int32), iv (0 : Int32), iv vt, iv (1 : Int32)] [(.int (0 : Int32))])) _
        refine XS.iload X184.here hx rfl (hb hby at_395) rfl ?_
        refine XS.icmpNo X184.here hx rfl (hb hby at_397) rfl (teq (by decide)).2 ?_
        refine XS.iconst X184.here hx rfl (hb hby at_400) ?_
        refine XS.goto X184.here hx rfl (pc0 := 401) (pc' := 405) rfl (hb hby at_401) (by decide) (by decide) ?_
        exact kt
      obtain ⟨fs, hr, hrun, hended, hW, hsame⟩ := X184.leave (v := some (.int (1 : Int32))) (fun h => by rw [Bd.returns] at h; cases h)
      refine ⟨_, _, pre185 _ ?_, hrun, hended, _, _, rfl, ?_, ⟨_, rfl⟩, hW, hsame.mono (by decide) (by decide)⟩
      · show Steps p.tables e below (T184.setTop (mkF m 405 #[iv p0, iv p1, iv p2, iv p3, iv p4, iv p5, iv va, iv vb, iv vc, iv (2 : Int32), iv (p4 &&& (7 : Int32)), iv off, rv b119, iv (0 : Int32), iv (0 : Int32), iv (0 : Int32), iv (0 : Int32), iv vt, iv (1 : Int32)] [(.int (1 : Int32))])) _
        exact retN X184 hx (t := .boolean) Bd.returns (by simp) (hb hby at_405) hr
      · show Q0 Z p0 p1 p2 p3 p4 p5 h0 n0 _ T184.heap _
        exact ⟨rfl, N184⟩
  · have pre186 : ∀ t, Steps p.tables e below (s₁.setTop (mkF m 41 #[iv p0, iv p1, iv p2, iv p3, iv p4, iv p5, iv va, iv vb, iv vc, iv (3 : Int32), iv (p4 &&& (7 : Int32)), .unset, .unset, .unset, .unset, .unset, .unset, .unset, .unset] [])) t → Steps p.tables e below (s₁.setTop (entryFrame m #[(.int p0), (.int p1), (.int p2), (.int p3), (.int p4), (.int p5)] maxLocals)) t := by
      intro t kt
      refine pre1 _ ?_
      show Steps p.tables e below (s₁.setTop (mkF m 34 #[iv p0, iv p1, iv p2, iv p3, iv p4, iv p5, iv va, iv vb, iv vc, iv (p5 &&& (3 : Int32)), .unset, .unset, .unset, .unset, .unset, .unset, .unset, .unset, .unset] [])) _
      rw [h4]
      show Steps p.tables e below (s₁.setTop (mkF m 34 #[iv p0, iv p1, iv p2, iv p3, iv p4, iv p5, iv va, iv vb, iv vc, iv (3 : Int32), .unset, .unset, .unset, .unset, .unset, .unset, .unset, .unset, .unset] [])) _
      refine XS.iload X0.here hx rfl (hb hby at_34) rfl ?_
      refine XS.bipush X0.here hx rfl (hb hby at_36) ?_
      refine XS.iand X0.here hx rfl (hb hby at_38) rfl ?_
      refine XS.istore X0.here hx rfl (hb hby at_39) rfl (l' := #[iv p0, iv p1, iv p2, iv p3, iv p4, iv p5, iv va, iv vb, iv vc, iv (3 : Int32), iv (p4 &&& (7 : Int32)), .unset, .unset, .unset, .unset, .unset, .unset, .unset, .unset]) rfl ?_
      exact kt
    obtain ⟨off, hj203, pre203⟩ : ∃ (off : Int32), (True) ∧ ∀ t, Steps p.tables e below (s₁.setTop (mkF m 143 #[iv p0, iv p1, iv p2, iv p3, iv p4, iv p5, iv va, iv vb, iv vc, iv (3 : Int32), iv (p4 &&& (7 : Int32)), iv off, .unset, .unset, .unset, .unset, .unset, .unset, .unset] [])) t → Steps p.tables e below (s₁.setTop (entryFrame m #[(.int p0), (.int p1), (.int p2), (.int p3), (.int p4), (.int p5)] maxLocals)) t := by
      have pre187 : ∀ t, Steps p.tables e below (s₁.setTop (mkF m 43 #[iv p0, iv p1, iv p2, iv p3, iv p4, iv p5, iv va, iv vb, iv vc, iv (3 : Int32), iv (p4 &&& (7 : Int32)), .unset, .unset, .unset, .unset, .unset, .unset, .unset, .unset] [(.int (p4 &&& (7 : Int32)))])) t → Steps p.tables e below (s₁.setTop (entryFrame m #[(.int p0), (.int p1), (.int p2), (.int p3), (.int p4), (.int p5)] maxLocals)) t := by
        intro t kt
        refine pre186 _ ?_
        show Steps p.tables e below (s₁.setTop (mkF m 41 #[iv p0, iv p1, iv p2, iv p3, iv p4, iv p5, iv va, iv vb, iv vc, iv (3 : Int32), iv (p4 &&& (7 : Int32)), .unset, .unset, .unset, .unset, .unset, .unset, .unset, .unset] [])) _
        refine XS.iload X0.here hx rfl (hb hby at_41) rfl ?_
        exact kt
      by_cases hc43 : (p4 &&& (7 : Int32)) = (0 : Int32)
      · have pre188 : ∀ t, Steps p.tables e below (s₁.setTop (mkF m 143 #[iv p0, iv p1, iv p2, iv p3, iv p4, iv p5, iv va, iv vb, iv vc, iv (3 : Int32), iv (p4 &&& (7 : Int32)), iv p3, .unset, .unset, .unset, .unset, .unset, .unset, .unset] [])) t → Steps p.tables e below (s₁.setTop (entryFrame m #[(.int p0), (.int p1), (.int p2), (.int p3), (.int p4), (.int p5)] maxLocals)) t := by
          intro t kt
          refine pre187 _ ?_
          show Steps p.tables e below (s₁.setTop (mkF m 43 #[iv p0, iv p1, iv p2, iv p3, iv p4, iv p5, iv va, iv vb, iv vc, iv (3 : Int32), iv (p4 &&& (7 : Int32)), .unset, .unset, .unset, .unset, .unset, .unset, .unset, .unset] [(.int (p4 &&& (7 : Int32)))])) _
          refine XS.ifNo X0.here hx rfl (hb hby at_43) rfl ((if0 _ _).trans (teq hc43).2) ?_
          refine XS.iloadN X0.here hx rfl (hb hby at_46) rfl ?_
          refine XS.istore X0.here hx rfl (hb hby at_47) rfl (l' := #[iv p0, iv p1, iv p2, iv p3, iv p4, iv p5, iv va, iv vb, iv vc, iv (3 : Int32), iv (p4 &&& (7 : Int32)), iv p3, .unset, .unset, .unset, .unset, .unset, .unset, .unset]) rfl ?_
          refine XS.goto X0.here hx rfl (pc0 := 49) (pc' := 143) rfl (hb hby at_49) (by decide) (by decide) ?_
          exact kt
        exact ⟨p3, trivial, pre188⟩
      · have pre189 : ∀ t, Steps p.tables e below (s₁.setTop (mkF m 55 #[iv p0, iv p1, iv p2, iv p3, iv p4, iv p5, iv va, iv vb, iv vc, iv (3 : Int32), iv (p4 &&& (7 : Int32)), .unset, .unset, .unset, .unset, .unset, .unset, .unset, .unset] [(.int (1 : Int32)), (.int (p4 &&& (7 : Int32)))])) t → Steps p.tables e below (s₁.setTop (entryFrame m #[(.int p0), (.int p1), (.int p2), (.int p3), (.int p4), (.int p5)] maxLocals)) t := by
          intro t kt
          refine pre187 _ ?_
          show Steps p.tables e below (s₁.setTop (mkF m 43 #[iv p0, iv p1, iv p2, iv p3, iv p4, iv p5, iv va, iv vb, iv vc, iv (3 : Int32), iv (p4 &&& (7 : Int32)), .unset, .unset, .unset, .unset, .unset, .unset, .unset, .unset] [(.int (p4 &&& (7 : Int32)))])) _
          refine XS.ifYes X0.here hx rfl (pc0 := 43) (pc' := 52) rfl (hb hby at_43) rfl ((if0 _ _).trans (feq hc43).2) (by decide) (by decide) ?_
          refine XS.iload X0.here hx rfl (hb hby at_52) rfl ?_
          refine XS.iconst X0.here hx rfl (hb hby at_54) ?_
          exact kt
        by_cases hc55 : (p4 &&& (7 : Int32)) = (1 : Int32)
        · have pre190 : ∀ t, Steps p.tables e below (s₁.setTop (mkF m 143 #[iv p0, iv p1, iv p2, iv p3, iv p4, iv p5, iv va, iv vb, iv vc, iv (3 : Int32), iv (p4 &&& (7 : Int32)), iv va, .unset, .unset, .unset, .unset, .unset, .unset, .unset] [])) t → Steps p.tables e below (s₁.setTop (entryFrame m #[(.int p0), (.int p1), (.int p2), (.int p3), (.int p4), (.int p5)] maxLocals)) t := by
            intro t kt
            refine pre189 _ ?_
            show Steps p.tables e below (s₁.setTop (mkF m 55 #[iv p0, iv p1, iv p2, iv p3, iv p4, iv p5, iv va, iv vb, iv vc, iv (3 : Int32), iv (p4 &&& (7 : Int32)), .unset, .unset, .unset, .unset, .unset, .unset, .unset, .unset] [(.int (1 : Int32)), (.int (p4 &&& (7 : Int32)))])) _
            refine XS.icmpNo X0.here hx rfl (hb hby at_55) rfl (teq hc55).2 ?_
            refine XS.iload X0.here hx rfl (hb hby at_58) rfl ?_
            refine XS.istore X0.here hx rfl (hb hby at_60) rfl (l' := #[iv p0, iv p1, iv p2, iv p3, iv p4, iv p5, iv va, iv vb, iv vc, iv (3 : Int32), iv (p4 &&& (7 : Int32)), iv va, .unset, .unset, .unset, .unset, .unset, .unset, .unset]) rfl ?_
            refine XS.goto X0.here hx rfl (pc0 := 62) (pc' := 143) rfl (hb hby at_62) (by decide) (by decide) ?_
            exact kt
          exact ⟨va, trivial, pre190⟩
        · have pre191 : ∀ t, Steps p.tables e below (s₁.setTop (mkF m 68 #[iv p0, iv p1, iv p2, iv p3, iv p4, iv p5, iv va, iv vb, iv vc, iv (3 : Int32), iv (p4 &&& (7 : Int32)), .unset, .unset, .unset, .unset, .unset, .unset, .unset, .unset] [(.int (2 : Int32)), (.int (p4 &&& (7 : Int32)))])) t → Steps p.tables e below (s₁.setTop (entryFrame m #[(.int p0), (.int p1), (.int p2), (.int p3), (.int p4), (.int p5)] maxLocals)) t := by
            intro t kt
            refine pre189 _ ?_
            show Steps p.tables e below (s₁.setTop (mkF m 55 #[iv p0, iv p1, iv p2, iv p3, iv p4, iv p5, iv va, iv vb, iv vc, iv (3 : Int32), iv (p4 &&& (7 : Int32)), .unset, .unset, .unset, .unset, .unset, .unset, .unset, .unset] [(.int (1 : Int32)), (.int (p4 &&& (7 : Int32)))])) _
            refine XS.icmpYes X0.here hx rfl (pc0 := 55) (pc' := 65) rfl (hb hby at_55) rfl (feq hc55).2 (by decide) (by decide) ?_
            refine XS.iload X0.here hx rfl (hb hby at_65) rfl ?_
            refine XS.iconst X0.here hx rfl (hb hby at_67) ?_
            exact kt
          by_cases hc68 : (p4 &&& (7 : Int32)) = (2 : Int32)
          · have pre192 : ∀ t, Steps p.tables e below (s₁.setTop (mkF m 143 #[iv p0, iv p1, iv p2, iv p3, iv p4, iv p5, iv va, iv vb, iv vc, iv (3 : Int32), iv (p4 &&& (7 : Int32)), iv (va + (1 : Int32)), .unset, .unset, .unset, .unset, .unset, .unset, .unset] [])) t → Steps p.tables e below (s₁.setTop (entryFrame m #[(.int p0), (.int p1), (.int p2), (.int p3), (.int p4), (.int p5)] maxLocals)) t := by
              intro t kt
              refine pre191 _ ?_
              show Steps p.tables e below (s₁.setTop (mkF m 68 #[iv p0, iv p1, iv p2, iv p3, iv p4, iv p5, iv va, iv vb, iv vc, iv (3 : Int32), iv (p4 &&& (7 : Int32)), .unset, .unset, .unset, .unset, .unset, .unset, .unset, .unset] [(.int (2 : Int32)), (.int (p4 &&& (7 : Int32)))])) _
              refine XS.icmpNo X0.here hx rfl (hb hby at_68) rfl (teq hc68).2 ?_
              refine XS.iload X0.here hx rfl (hb hby at_71) rfl ?_
              refine XS.iconst X0.here hx rfl (hb hby at_73) ?_
              refine XS.iadd X0.here hx rfl (hb hby at_74) rfl ?_
              refine XS.istore X0.here hx rfl (hb hby at_75) rfl (l' := #[iv p0, iv p1, iv p2, iv p3, iv p4, iv p5, iv va, iv vb, iv vc, iv (3 : Int32), iv (p4 &&& (7 : Int32)), iv (va + (1 : Int32)), .unset, .unset, .unset, .unset, .unset, .unset, .unset]) rfl ?_
              refine XS.goto X0.here hx rfl (pc0 := 77) (pc' := 143) rfl (hb hby at_77) (by decide) (by decide) ?_
              exact kt
            exact ⟨(va + (1 : Int32)), trivial, pre192⟩
          · have pre193 : ∀ t, Steps p.tables e below (s₁.setTop (mkF m 83 #[iv p0, iv p1, iv p2, iv p3, iv p4, iv p5, iv va, iv vb, iv vc, iv (3 : Int32), iv (p4 &&& (7 : Int32)), .unset, .unset, .unset, .unset, .unset, .unset, .unset, .unset] [(.int (3 : Int32)), (.int (p4 &&& (7 : Int32)))])) t → Steps p.tables e below (s₁.setTop (entryFrame m #[(.int p0), (.int p1), (.int p2), (.int p3), (.int p4), (.int p5)] maxLocals)) t := by
              intro t kt
              refine pre191 _ ?_
              show Steps p.tables e below (s₁.setTop (mkF m 68 #[iv p0, iv p1, iv p2, iv p3, iv p4, iv p5, iv va, iv vb, iv vc, iv (3 : Int32), iv (p4 &&& (7 : Int32)), .unset, .unset, .unset, .unset, .unset, .unset, .unset, .unset] [(.int (2 : Int32)), (.int (p4 &&& (7 : Int32)))])) _
              refine XS.icmpYes X0.here hx rfl (pc0 := 68) (pc' := 80) rfl (hb hby at_68) rfl (feq hc68).2 (by decide) (by decide) ?_
              refine XS.iload X0.here hx rfl (hb hby at_80) rfl ?_
              refine XS.iconst X0.here hx rfl (hb hby at_82) ?_
              exact kt
            by_cases hc83 : (p4 &&& (7 : Int32)) = (3 : Int32)
            · have pre194 : ∀ t, Steps p.tables e below (s₁.setTop (mkF m 143 #[iv p0, iv p1, iv p2, iv p3, iv p4, iv p5, iv va, iv vb, iv vc, iv (3 : Int32), iv (p4 &&& (7 : Int32)), iv vb, .unset, .unset, .unset, .unset, .unset, .unset, .unset] [])) t → Steps p.tables e below (s₁.setTop (entryFrame m #[(.int p0), (.int p1), (.int p2), (.int p3), (.int p4), (.int p5)] maxLocals)) t := by
                intro t kt
                refine pre193 _ ?_
                show Steps p.tables e below (s₁.setTop (mkF m 83 #[iv p0, iv p1, iv p2, iv p3, iv p4, iv p5, iv va, iv vb, iv vc, iv (3 : Int32), iv (p4 &&& (7 : Int32)), .unset, .unset, .unset, .unset, .unset, .unset, .unset, .unset] [(.int (3 : Int32)), (.int (p4 &&& (7 : Int32)))])) _
                refine XS.icmpNo X0.here hx rfl (hb hby at_83) rfl (teq hc83).2 ?_
                refine XS.iload X0.here hx rfl (hb hby at_86) rfl ?_
                refine XS.istore X0.here hx rfl (hb hby at_88) rfl (l' := #[iv p0, iv p1, iv p2, iv p3, iv p4, iv p5, iv va, iv vb, iv vc, iv (3 : Int32), iv (p4 &&& (7 : Int32)), iv vb, .unset, .unset, .unset, .unset, .unset, .unset, .unset]) rfl ?_
                refine XS.goto X0.here hx rfl (pc0 := 90) (pc' := 143) rfl (hb hby at_90) (by decide) (by decide) ?_
                exact kt
              exact ⟨vb, trivial, pre194⟩
            · have pre195 : ∀ t, Steps p.tables e below (s₁.setTop (mkF m 96 #[iv p0, iv p1, iv p2, iv p3, iv p4, iv p5, iv va, iv vb, iv vc, iv (3 : Int32), iv (p4 &&& (7 : Int32)), .unset, .unset, .unset, .unset, .unset, .unset, .unset, .unset] [(.int (4 : Int32)), (.int (p4 &&& (7 : Int32)))])) t → Steps p.tables e below (s₁.setTop (entryFrame m #[(.int p0), (.int p1), (.int p2), (.int p3), (.int p4), (.int p5)] maxLocals)) t := by
                intro t kt
                refine pre193 _ ?_
                show Steps p.tables e below (s₁.setTop (mkF m 83 #[iv p0, iv p1, iv p2, iv p3, iv p4, iv p5, iv va, iv vb, iv vc, iv (3 : Int32), iv (p4 &&& (7 : Int32)), .unset, .unset, .unset, .unset, .unset, .unset, .unset, .unset] [(.int (3 : Int32)), (.int (p4 &&& (7 : Int32)))])) _
                refine XS.icmpYes X0.here hx rfl (pc0 := 83) (pc' := 93) rfl (hb hby at_83) rfl (feq hc83).2 (by decide) (by decide) ?_
                refine XS.iload X0.here hx rfl (hb hby at_93) rfl ?_
                refine XS.iconst X0.here hx rfl (hb hby at_95) ?_
                exact kt
              by_cases hc96 : (p4 &&& (7 : Int32)) = (4 : Int32)
              · have pre196 : ∀ t, Steps p.tables e below (s₁.setTop (mkF m 143 #[iv p0, iv p1, iv p2, iv p3, iv p4, iv p5, iv va, iv vb, iv vc, iv (3 : Int32), iv (p4 &&& (7 : Int32)), iv (vb + (1 : Int32)), .unset, .unset, .unset, .unset, .unset, .unset, .unset] [])) t → Steps p.tables e below (s₁.setTop (entryFrame m #[(.int p0), (.int p1), (.int p2), (.int p3), (.int p4), (.int p5)] maxLocals)) t := by
                  intro t kt
                  refine pre195 _ ?_
                  show Steps p.tables e below (s₁.setTop (mkF m 96 #[iv p0, iv p1, iv p2, iv p3, iv p4, iv p5, iv va, iv vb, iv vc, iv (3 : Int32), iv (p4 &&& (7 : Int32)), .unset, .unset, .unset, .unset, .unset, .unset, .unset, .unset] [(.int (4 : Int32)), (.int (p4 &&& (7 : Int32)))])) _
                  refine XS.icmpNo X0.here hx rfl (hb hby at_96) rfl (teq hc96).2 ?_
                  refine XS.iload X0.here hx rfl (hb hby at_99) rfl ?_
                  refine XS.iconst X0.here hx rfl (hb hby at_101) ?_
                  refine XS.iadd X0.here hx rfl (hb hby at_102) rfl ?_
                  refine XS.istore X0.here hx rfl (hb hby at_103) rfl (l' := #[iv p0, iv p1, iv p2, iv p3, iv p4, iv p5, iv va, iv vb, iv vc, iv (3 : Int32), iv (p4 &&& (7 : Int32)), iv (vb + (1 : Int32)), .unset, .unset, .unset, .unset, .unset, .unset, .unset]) rfl ?_
                  refine XS.goto X0.here hx rfl (pc0 := 105) (pc' := 143) rfl (hb hby at_105) (by decide) (by decide) ?_
                  exact kt
                exact ⟨(vb + (1 : Int32)), trivial, pre196⟩
              · have pre197 : ∀ t, Steps p.tables e below (s₁.setTop (mkF m 111 #[iv p0, iv p1, iv p2, iv p3, iv p4, iv p5, iv va, iv vb, iv vc, iv (3 : Int32), iv (p4 &&& (7 : Int32)), .unset, .unset, .unset, .unset, .unset, .unset, .unset, .unset] [(.int (5 : Int32)), (.int (p4 &&& (7 : Int32)))])) t → Steps p.tables e below (s₁.setTop (entryFrame m #[(.int p0), (.int p1), (.int p2), (.int p3), (.int p4), (.int p5)] maxLocals)) t := by
                  intro t kt
                  refine pre195 _ ?_
                  show Steps p.tables e below (s₁.setTop (mkF m 96 #[iv p0, iv p1, iv p2, iv p3, iv p4, iv p5, iv va, iv vb, iv vc, iv (3 : Int32), iv (p4 &&& (7 : Int32)), .unset, .unset, .unset, .unset, .unset, .unset, .unset, .unset] [(.int (4 : Int32)), (.int (p4 &&& (7 : Int32)))])) _
                  refine XS.icmpYes X0.here hx rfl (pc0 := 96) (pc' := 108) rfl (hb hby at_96) rfl (feq hc96).2 (by decide) (by decide) ?_
                  refine XS.iload X0.here hx rfl (hb hby at_108) rfl ?_
                  refine XS.iconst X0.here hx rfl (hb hby at_110) ?_
                  exact kt
                by_cases hc111 : (p4 &&& (7 : Int32)) = (5 : Int32)
                · have pre198 : ∀ t, Steps p.tables e below (s₁.setTop (mkF m 143 #[iv p0, iv p1, iv p2, iv p3, iv p4, iv p5, iv va, iv vb, iv vc, iv (3 : Int32), iv (p4 &&& (7 : Int32)), iv vc, .unset, .unset, .unset, .unset, .unset, .unset, .unset] [])) t → Steps p.tables e below (s₁.setTop (entryFrame m #[(.int p0), (.int p1), (.int p2), (.int p3), (.int p4), (.int p5)] maxLocals)) t := by
                    intro t kt
                    refine pre197 _ ?_
                    show Steps p.tables e below (s₁.setTop (mkF m 111 #[iv p0, iv p1, iv p2, iv p3, iv p4, iv p5, iv va, iv vb, iv vc, iv (3 : Int32), iv (p4 &&& (7 : Int32)), .unset, .unset, .unset, .unset, .unset, .unset, .unset, .unset] [(.int (5 : Int32)), (.int (p4 &&& (7 : Int32)))])) _
                    refine XS.icmpNo X0.here hx rfl (hb hby at_111) rfl (teq hc111).2 ?_
                    refine XS.iload X0.here hx rfl (hb hby at_114) rfl ?_
                    refine XS.istore X0.here hx rfl (hb hby at_116) rfl (l' := #[iv p0, iv p1, iv p2, iv p3, iv p4, iv p5, iv va, iv vb, iv vc, iv (3 : Int32), iv (p4 &&& (7 : Int32)), iv vc, .unset, .unset, .unset, .unset, .unset, .unset, .unset]) rfl ?_
                    refine XS.goto X0.here hx rfl (pc0 := 118) (pc' := 143) rfl (hb hby at_118) (by decide) (by decide) ?_
                    exact kt
                  exact ⟨vc, trivial, pre198⟩
                · have pre199 : ∀ t, Steps p.tables e below (s₁.setTop (mkF m 125 #[iv p0, iv p1, iv p2, iv p3, iv p4, iv p5, iv va, iv vb, iv vc, iv (3 : Int32), iv (p4 &&& (7 : Int32)), .unset, .unset, .unset, .unset, .unset, .unset, .unset, .unset] [(.int (6 : Int32)), (.int (p4 &&& (7 : Int32)))])) t → Steps p.tables e below (s₁.setTop (entryFrame m #[(.int p0), (.int p1), (.int p2), (.int p3), (.int p4), (.int p5)] maxLocals)) t := by
                    intro t kt
                    refine pre197 _ ?_
                    show Steps p.tables e below (s₁.setTop (mkF m 111 #[iv p0, iv p1, iv p2, iv p3, iv p4, iv p5, iv va, iv vb, iv vc, iv (3 : Int32), iv (p4 &&& (7 : Int32)), .unset, .unset, .unset, .unset, .unset, .unset, .unset, .unset] [(.int (5 : Int32)), (.int (p4 &&& (7 : Int32)))])) _
                    refine XS.icmpYes X0.here hx rfl (pc0 := 111) (pc' := 121) rfl (hb hby at_111) rfl (feq hc111).2 (by decide) (by decide) ?_
                    refine XS.iload X0.here hx rfl (hb hby at_121) rfl ?_
                    refine XS.bipush X0.here hx rfl (hb hby at_123) ?_
                    exact kt
                  by_cases hc125 : (p4 &&& (7 : Int32)) = (6 : Int32)
                  · have pre200 : ∀ t, Steps p.tables e below (s₁.setTop (mkF m 143 #[iv p0, iv p1, iv p2, iv p3, iv p4, iv p5, iv va, iv vb, iv vc, iv (3 : Int32), iv (p4 &&& (7 : Int32)), iv (vc + (1 : Int32)), .unset, .unset, .unset, .unset, .unset, .unset, .unset] [])) t → Steps p.tables e below (s₁.setTop (entryFrame m #[(.int p0), (.int p1), (.int p2), (.int p3), (.int p4), (.int p5)] maxLocals)) t := by
                      intro t kt
                      refine pre199 _ ?_
                      show Steps p.tables e below (s₁.setTop (mkF m 125 #[iv p0, iv p1, iv p2, iv p3, iv p4, iv p5, iv va, iv vb, iv vc, iv (3 : Int32), iv (p4 &&& (7 : Int32)), .unset, .unset, .unset, .unset, .unset, .unset, .unset, .unset] [(.int (6 : Int32)), (.int (p4 &&& (7 : Int32)))])) _
                      refine XS.icmpNo X0.here hx rfl (hb hby at_125) rfl (teq hc125).2 ?_
                      refine XS.iload X0.here hx rfl (hb hby at_128) rfl ?_
                      refine XS.iconst X0.here hx rfl (hb hby at_130) ?_
                      refine XS.iadd X0.here hx rfl (hb hby at_131) rfl ?_
                      refine XS.istore X0.here hx rfl (hb hby at_132) rfl (l' := #[iv p0, iv p1, iv p2, iv p3, iv p4, iv p5, iv va, iv vb, iv vc, iv (3 : Int32), iv (p4 &&& (7 : Int32)), iv (vc + (1 : Int32)), .unset, .unset, .unset, .unset, .unset, .unset, .unset]) rfl ?_
                      refine XS.goto X0.here hx rfl (pc0 := 134) (pc' := 143) rfl (hb hby at_134) (by decide) (by decide) ?_
                      exact kt
                    exact ⟨(vc + (1 : Int32)), trivial, pre200⟩
                  · have pre201 : ∀ t, Steps p.tables e below (s₁.setTop (mkF m 143 #[iv p0, iv p1, iv p2, iv p3, iv p4, iv p5, iv va, iv vb, iv vc, iv (3 : Int32), iv (p4 &&& (7 : Int32)), iv (vc - (1 : Int32)), .unset, .unset, .unset, .unset, .unset, .unset, .unset] [])) t → Steps p.tables e below (s₁.setTop (entryFrame m #[(.int p0), (.int p1), (.int p2), (.int p3), (.int p4), (.int p5)] maxLocals)) t := by
                      intro t kt
                      refine pre199 _ ?_
                      show Steps p.tables e below (s₁.setTop (mkF m 125 #[iv p0, iv p1, iv p2, iv p3, iv p4, iv p5, iv va, iv vb, iv vc, iv (3 : Int32), iv (p4 &&& (7 : Int32)), .unset, .unset, .unset, .unset, .unset, .unset, .unset, .unset] [(.int (6 : Int32)), (.int (p4 &&& (7 : Int32)))])) _
                      refine XS.icmpYes X0.here hx rfl (pc0 := 125) (pc' := 137) rfl (hb hby at_125) rfl (feq hc125).2 (by decide) (by decide) ?_
                      refine XS.iload X0.here hx rfl (hb hby at_137) rfl ?_
                      refine XS.iconst X0.here hx rfl (hb hby at_139) ?_
                      refine XS.isub X0.here hx rfl (hb hby at_140) rfl ?_
                      refine XS.istore X0.here hx rfl (hb hby at_141) rfl (l' := #[iv p0, iv p1, iv p2, iv p3, iv p4, iv p5, iv va, iv vb, iv vc, iv (3 : Int32), iv (p4 &&& (7 : Int32)), iv (vc - (1 : Int32)), .unset, .unset, .unset, .unset, .unset, .unset, .unset]) rfl ?_
                      exact kt
                    exact ⟨(vc - (1 : Int32)), trivial, pre201⟩
    obtain ⟨T204, h204, X204, e204, E204, A204, D204, -, st204⟩ := newO X0 hx hZ hown (hw _ (List.mem_of_getElem? (i := 1) rfl)) (hw _ (List.mem_of_getElem? (i := 2) rfl)) (hw _ (List.mem_of_getElem? (i := 3) rfl)) e0 (g := (mkF m 143 #[iv p0, iv p1, iv p2, iv p3, iv p4, iv p5, iv va, iv vb, iv vc, iv (3 : Int32), iv (p4 &&& (7 : Int32)), iv off, .unset, .unset, .unset, .unset, .unset, .unset, .unset] [])) rfl (hb hby at_143) (by decide) (by decide)
    obtain ⟨b204, g204⟩ : ∃ z, z = h0.size := ⟨_, rfl⟩
    rw [← g204] at A204 D204 st204
    have g_b204 : n0 ≤ b204 := Nat.le_trans (Nat.le_trans Z0 (Keep.refl h0 []).1) (Nat.le_of_eq g204.symm)
    have sz_b204 : h0.size ≤ b204 := Nat.le_trans (Keep.refl h0 []).1 (Nat.le_of_eq g204.symm)
    have F_offsets_b204 : Fld Z h204 b204 "com/example/bytewright/bytewright/grid/ObjectStarts" "offsets" "[I" .null := D204 (Or.inl (hw _ (List.mem_of_getElem? (i := 12) rfl))) (ty := (.array .int)) (by decide)
    have F_count_b204 : Fld Z h204 b204 "com/example/bytewright/bytewright/grid/ObjectStarts" "count" "I" (.int (0 : Int32)) := D204 (Or.inl (hw _ (List.mem_of_getElem? (i := 19) rfl))) (ty := .int) (by decide)
    have K204 : Keep h0 h204 [] := (Keep.refl h0 []).ext E204
    have pre205 : ∀ t, Steps p.tables e below (T204.setTop (mkF m 147 #[iv p0, iv p1, iv p2, iv p3, iv p4, iv p5, iv va, iv vb, iv vc, iv (3 : Int32), iv (p4 &&& (7 : Int32)), iv off, .unset, .unset, .unset, .unset, .unset, .unset, .unset] [(.ref b204), (.ref b204)])) t → Steps p.tables e below (s₁.setTop (entryFrame m #[(.int p0), (.int p1), (.int p2), (.int p3), (.int p4), (.int p5)] maxLocals)) t := by
      intro t kt
      refine pre203 _ ?_
      show Steps p.tables e below (s₁.setTop (mkF m 143 #[iv p0, iv p1, iv p2, iv p3, iv p4, iv p5, iv va, iv vb, iv vc, iv (3 : Int32), iv (p4 &&& (7 : Int32)), iv off, .unset, .unset, .unset, .unset, .unset, .unset, .unset] [])) _
      refine st204 _ ?_
      show Steps p.tables e below (T204.setTop (mkF m 146 #[iv p0, iv p1, iv p2, iv p3, iv p4, iv p5, iv va, iv vb, iv vc, iv (3 : Int32), iv (p4 &&& (7 : Int32)), iv off, .unset, .unset, .unset, .unset, .unset, .unset, .unset] [(.ref b204)])) _
      refine XS.dup X204.here hx rfl (hb hby at_146) rfl rfl ?_
      exact kt
    obtain ⟨_, _, ⟨T206, L206, k206, n206⟩, -, X206, ⟨Lc206, hQ206, l206, y206, z206⟩, st206⟩ := X204.specialBack hx (y := (⟨"com/example/bytewright/bytewright/grid/ObjectStarts", "<init>", "()V"⟩ : MethodName)) rfl hown (mvT hZ (hw _ (List.mem_of_getElem? (i := 4) rfl))) (mvT hZ (hw _ (List.mem_of_getElem? (i := 5) rfl))) (mvT hZ (hw _ (List.mem_of_getElem? (i := 6) rfl))) (by decide) (backOf (W := 1) (rm1 l Z a0 hw [] b204 h204 n0 (Nat.le_trans Z0 K204.1) F_offsets_b204 F_count_b204 A204 g_b204) hZ (hw _ (List.mem_of_getElem? (i := 6) rfl)) (hw _ (List.mem_of_getElem? (i := 3) rfl)) (by decide) (by decide)) (g := (mkF m 147 #[iv p0, iv p1, iv p2, iv p3, iv p4, iv p5, iv va, iv vb, iv vc, iv (3 : Int32), iv (p4 &&& (7 : Int32)), iv off, .unset, .unset, .unset, .unset, .unset, .unset, .unset] [(.ref b204), (.ref b204)])) rfl (by rw [hml]; rfl) (Steps.refl _) (a := b204) (argsL := []) (rest := [(.ref b204)]) (lenOf pd5 rfl) rfl (by show 2 * 0 + _ ≤ _; exact Nat.le_of_eq rfl) (hb hby at_147) (fun _ _ => ⟨rfl, e204, (by decide : 1 + 1 ≤ _), (by decide : 2 + 16 ≤ _)⟩)
    dsimp only [Pt.U, Pt.locs, Pt.cells, Pt.slots] at X206 l206 y206 z206 st206 hQ206
    subst l206 y206 z206
    obtain ⟨ab206, kb206, rfl, N206q, Kc206, hsz206, Fo206, Fn206, Va206⟩ := hQ206
    have N206 := Fr.app N0 N206q
    have K206 : Keep h0 T206.heap [] := K204.trans Kc206 (allS (Or.inr sz_b204) all0)
    have g_ab206 : n0 ≤ ab206 := Nat.le_trans (Nat.le_trans Z0 K204.1) hsz206
    have sz_ab206 : h0.size ≤ ab206 := Nat.le_trans K204.1 hsz206
    have hne206 : b204 ≠ ab206 := Nat.ne_of_lt (Nat.lt_of_lt_of_le A204.lt hsz206)
    have pre207 : ∀ t, Steps p.tables e below (T206.setTop (mkF m 162 #[iv p0, iv p1, iv p2, iv p3, iv p4, iv p5, iv va, iv vb, iv vc, iv (3 : Int32), iv (p4 &&& (7 : Int32)), iv off, rv b204, .unset, .unset, .unset, .unset, .unset, .unset] [(.int va), (.ref b204)])) t → Steps p.tables e below (s₁.setTop (entryFrame m #[(.int p0), (.int p1), (.int p2), (.int p3), (.int p4), (.int p5)] maxLocals)) t := by
      intro t kt
      refine pre205 _ ?_
      show Steps p.tables e below (T204.setTop (mkF m 147 #[iv p0, iv p1, iv p2, iv p3, iv p4, iv p5, iv va, iv vb, iv vc, iv (3 : Int32), iv (p4 &&& (7 : Int32)), iv off, .unset, .unset, .unset, .unset, .unset, .unset, .unset] [(.ref b204), (.ref b204)])) _
      refine st206.trans ?_
      show Steps p.tables e below (T206.setTop (mkF m 150 #[iv p0, iv p1, iv p2, iv p3, iv p4, iv p5, iv va, iv vb, iv vc, iv (3 : Int32), iv (p4 &&& (7 : Int32)), iv off, .unset, .unset, .unset, .unset, .unset, .unset, .unset] [(.ref b204)])) _
      refine XS.astore X206.here hx rfl (hb hby at_150) rfl rfl (l' := #[iv p0, iv p1, iv p2, iv p3, iv p4, iv p5, iv va, iv vb, iv vc, iv (3 : Int32), iv (p4 &&& (7 : Int32)), iv off, rv b204, .unset, .unset, .unset, .unset, .unset, .unset]) rfl ?_
      refine XS.iload X206.here hx rfl (hb hby at_152) rfl ?_
      refine XS.iconst X206.here hx rfl (hb hby at_154) ?_
      refine XS.icmpNo X206.here hx rfl (hb hby at_155) rfl (flt (by decide)).1 ?_
      refine XS.aload X206.here hx rfl (hb hby at_158) rfl rfl ?_
      refine XS.iload X206.here hx rfl (hb hby at_160) rfl ?_
      exact kt
    obtain ⟨cq208, kq208, q208a, q208b, q208c⟩ := isOf hZ rfl (A204.keep Kc206)
    obtain ⟨_, _, ⟨T208, L208, k208, n208⟩, -, X208, ⟨Lc208, hQ208, l208, y208, z208⟩, st208⟩ := X206.virtualBack hx (y := (⟨"com/example/bytewright/bytewright/grid/ObjectStarts", "add", "(I)I"⟩ : MethodName)) (z := (⟨"com/example/bytewright/bytewright/grid/ObjectStarts", "add", "(I)I"⟩ : MethodName)) hown (mvT hZ (hw _ (List.mem_of_getElem? (i := 13) rfl))) (mvT hZ (hw _ (List.mem_of_getElem? (i := 14) rfl))) (notFace_of_selects (args := #[]) (mvT hZ (hw _ (List.mem_of_getElem? (i := 16) rfl)))) (mvT hZ (hw _ (List.mem_of_getElem? (i := 16) rfl))) (mvT hZ (hw _ (List.mem_of_getElem? (i := 15) rfl))) (by decide) (backOf (W := 0) (rm3c0 l Z a0 hw [] b204 va ab206 kb206 (0 : Int32) (0 : Int32) (0 : Int32) (0 : Int32) T206.heap n0 (Nat.le_trans Z0 K206.1) Fo206 Fn206 (A204.keep Kc206) g_b204 Va206 g_ab206 hne206) hZ (hw _ (List.mem_of_getElem? (i := 17) rfl)) (hw _ (List.mem_of_getElem? (i := 3) rfl)) (by decide) (by decide)) q208a q208c (g := (mkF m 162 #[iv p0, iv p1, iv p2, iv p3, iv p4, iv p5, iv va, iv vb, iv vc, iv (3 : Int32), iv (p4 &&& (7 : Int32)), iv off, rv b204, .unset, .unset, .unset, .unset, .unset, .unset] [(.int va), (.ref b204)])) rfl (by rw [hml]; rfl) (Steps.refl _) (argsL := [(.int va)]) (rest := []) (lenOf pd8 rfl) rfl (by show 2 * 0 + _ ≤ _; exact Nat.le_of_eq rfl) (hb hby at_162) (fun _ _ => ⟨rfl, rfl, (by decide : 2 + 0 ≤ _), (by decide : 18 + 0 ≤ _)⟩)
    dsimp only [Pt.U, Pt.locs, Pt.cells, Pt.slots] at X208 l208 y208 z208 st208 hQ208
    subst l208 y208 z208
    obtain ⟨rfl, N208q, Kc208, Fo208, Fn208, Va208⟩ := hQ208
    have N208 := Fr.app N206 N208q
    have K208 : Keep h0 T208.heap [] := K206.trans Kc208 (allS (Or.inr sz_b204) (allS (Or.inr sz_ab206) all0))
    have pre209 : ∀ t, Steps p.tables e below (T208.setTop (mkF m 176 #[iv p0, iv p1, iv p2, iv p3, iv p4, iv p5, iv va, iv vb, iv vc, iv (3 : Int32), iv (p4 &&& (7 : Int32)), iv off, rv b204, .unset, .unset, .unset, .unset, .unset, .unset] [(.int vb), (.ref b204)])) t → Steps p.tables e below (s₁.setTop (entryFrame m #[(.int p0), (.int p1), (.int p2), (.int p3), (.int p4), (.int p5)] maxLocals)) t := by
      intro t kt
      refine pre207 _ ?_
      show Steps p.tables e below (T206.setTop (mkF m 162 #[iv p0, iv p1, iv p2, iv p3, iv p4, iv p5, iv va, iv vb, iv vc, iv (3 : Int32), iv (p4 &&& (7 : Int32)), iv off, rv b204, .unset, .unset, .unset, .unset, .unset, .unset] [(.int va), (.ref b204)])) _
      refine st208.trans ?_
      show Steps p.tables e below (T208.setTop (mkF m 165 #[iv p0, iv p1, iv p2, iv p3, iv p4, iv p5, iv va, iv vb, iv vc, iv (3 : Int32), iv (p4 &&& (7 : Int32)), iv off, rv b204, .unset, .unset, .unset, .unset, .unset, .unset] [(.int (0 : Int32))])) _
      refine XS.pop X208.here hx rfl (hb hby at_165) rfl rfl ?_
      refine XS.iload X208.here hx rfl (hb hby at_166) rfl ?_
      refine XS.iconst X208.here hx rfl (hb hby at_168) ?_
      refine XS.icmpNo X208.here hx rfl (hb hby at_169) rfl (flt (by decide)).1 ?_
      refine XS.aload X208.here hx rfl (hb hby at_172) rfl rfl ?_
      refine XS.iload X208.here hx rfl (hb hby at_174) rfl ?_
      exact kt
    obtain ⟨cq210, kq210, q210a, q210b, q210c⟩ := isOf hZ rfl ((A204.keep Kc206).keep Kc208)
    obtain ⟨_, _, ⟨T210, L210, k210, n210⟩, -, X210, ⟨Lc210, hQ210, l210, y210, z210⟩, st210⟩ := X208.virtualBack hx (y := (⟨"com/example/bytewright/bytewright/grid/ObjectStarts", "add", "(I)I"⟩ : MethodName)) (z := (⟨"com/example/bytewright/bytewright/grid/ObjectStarts", "add", "(I)I"⟩ : MethodName)) hown (mvT hZ (hw _ (List.mem_of_getElem? (i := 13) rfl))) (mvT hZ (hw _ (List.mem_of_getElem? (i := 14) rfl))) (notFace_of_selects (args := #[]) (mvT hZ (hw _ (List.mem_of_getElem? (i := 16) rfl)))) (mvT hZ (hw _ (List.mem_of_getElem? (i := 16) rfl))) (mvT hZ (hw _ (List.mem_of_getElem? (i := 15) rfl))) (by decide) (backOf (W := 0) (rm3c1 l Z a0 hw [] b204 vb ab206 kb206 va (0 : Int32) (0 : Int32) (0 : Int32) T208.heap n0 (Nat.le_trans Z0 K208.1) Fo208 Fn208 ((A204.keep Kc206).keep Kc208) g_b204 Va208 g_ab206 hne206 hab) hZ (hw _ (List.mem_of_getElem? (i := 17) rfl)) (hw _ (List.mem_of_getElem? (i := 3) rfl)) (by decide) (by decide)) q210a q210c (g := (mkF m 176 #[iv p0, iv p1, iv p2, iv p3, iv p4, iv p5, iv va, iv vb, iv vc, iv (3 : Int32), iv (p4 &&& (7 : Int32)), iv off, rv b204, .unset, .unset, .unset, .unset, .unset, .unset] [(.int vb), (.ref b204)])) rfl (by rw [hml]; rfl) (Steps.refl _) (argsL := [(.int vb)]) (rest := []) (lenOf pd8 rfl) rfl (by show 2 * 0 + _ ≤ _; exact Nat.le_of_eq rfl) (hb hby at_176) (fun _ _ => ⟨rfl, rfl, (by decide : 2 + 0 ≤ _), (by decide : 18 + 0 ≤ _)⟩)
    dsimp only [Pt.U, Pt.locs, Pt.cells, Pt.slots] at X210 l210 y210 z210 st210 hQ210
    subst l210 y210 z210
    obtain ⟨rfl, N210q, Kc210, Fo210, Fn210, Va210⟩ := hQ210
    have N210 := Fr.app N208 N210q
    have K210 : Keep h0 T210.heap [] := K208.trans Kc210 (allS (Or.inr sz_b204) (allS (Or.inr sz_ab206) all0))
    have pre211 : ∀ t, Steps p.tables e below (T210.setTop (mkF m 190 #[iv p0, iv p1, iv p2, iv p3, iv p4, iv p5, iv va, iv vb, iv vc, iv (3 : Int32), iv (p4 &&& (7 : Int32)), iv off, rv b204, .unset, .unset, .unset, .unset, .unset, .unset] [(.int vc), (.ref b204)])) t → Steps p.tables e below (s₁.setTop (entryFrame m #[(.int p0), (.int p1), (.int p2), (.int p3), (.int p4), (.int p5)] maxLocals)) t := by
      intro t kt
      refine pre209 _ ?_
      show Steps p.tables e below (T208.setTop (mkF m 176 #[iv p0, iv p1, iv p2, iv p3, iv p4, iv p5, iv va, iv vb, iv vc, iv (3 : Int32), iv (p4 &&& (7 : Int32)), iv off, rv b204, .unset, .unset, .unset, .unset, .unset, .unset] [(.int vb), (.ref b204)])) _
      refine st210.trans ?_
      show Steps p.tables e below (T210.setTop (mkF m 179 #[iv p0, iv p1, iv p2, iv p3, iv p4, iv p5, iv va, iv vb, iv vc, iv (3 : Int32), iv (p4 &&& (7 : Int32)), iv off, rv b204, .unset, .unset, .unset, .unset, .unset, .unset] [(.int (1 : Int32))])) _
      refine XS.pop X210.here hx rfl (hb hby at_179) rfl rfl ?_
      refine XS.iload X210.here hx rfl (hb hby at_180) rfl ?_
      refine XS.iconst X210.here hx rfl (hb hby at_182) ?_
      refine XS.icmpNo X210.here hx rfl (hb hby at_183) rfl (flt (by decide)).1 ?_
      refine XS.aload X210.here hx rfl (hb hby at_186) rfl rfl ?_
      refine XS.iload X210.here hx rfl (hb hby at_188) rfl ?_
      exact kt
    obtain ⟨cq212, kq212, q212a, q212b, q212c⟩ := isOf hZ rfl (((A204.keep Kc206).keep Kc208).keep Kc210)
    obtain ⟨_, _, ⟨T212, L212, k212, n212⟩, -, X212, ⟨Lc212, hQ212, l212, y212, z212⟩, st212⟩ := X210.virtualBack hx (y := (⟨"com/example/bytewright/bytewright/grid/ObjectStarts", "add", "(I)I"⟩ : MethodName)) (z := (⟨"com/example/bytewright/bytewright/grid/ObjectStarts", "add", "(I)I"⟩ : MethodName)) hown (mvT hZ (hw _ (List.mem_of_getElem? (i := 13) rfl))) (mvT hZ (hw _ (List.mem_of_getElem? (i := 14) rfl))) (notFace_of_selects (args := #[]) (mvT hZ (hw _ (List.mem_of_getElem? (i := 16) rfl)))) (mvT hZ (hw _ (List.mem_of_getElem? (i := 16) rfl))) (mvT hZ (hw _ (List.mem_of_getElem? (i := 15) rfl))) (by decide) (backOf (W := 0) (rm3c2 l Z a0 hw [] b204 vc ab206 kb206 va vb (0 : Int32) (0 : Int32) T210.heap n0 (Nat.le_trans Z0 K210.1) Fo210 Fn210 (((A204.keep Kc206).keep Kc208).keep Kc210) g_b204 Va210 g_ab206 hne206 hbc) hZ (hw _ (List.mem_of_getElem? (i := 17) rfl)) (hw _ (List.mem_of_getElem? (i := 3) rfl)) (by decide) (by decide)) q212a q212c (g := (mkF m 190 #[iv p0, iv p1, iv p2, iv p3, iv p4, iv p5, iv va, iv vb, iv vc, iv (3 : Int32), iv (p4 &&& (7 : Int32)), iv off, rv b204, .unset, .unset, .unset, .unset, .unset, .unset] [(.int vc), (.ref b204)])) rfl (by rw [hml]; rfl) (Steps.refl _) (argsL := [(.int vc)]) (rest := []) (lenOf pd8 rfl) rfl (by show 2 * 0 + _ ≤ _; exact Nat.le_of_eq rfl) (hb hby at_190) (fun _ _ => ⟨rfl, rfl, (by decide : 2 + 0 ≤ _), (by decide : 18 + 0 ≤ _)⟩)
    dsimp only [Pt.U, Pt.locs, Pt.cells, Pt.slots] at X212 l212 y212 z212 st212 hQ212
    subst l212 y212 z212
    obtain ⟨rfl, N212q, Kc212, Fo212, Fn212, Va212⟩ := hQ212
    have N212 := Fr.app N210 N212q
    have K212 : Keep h0 T212.heap [] := K210.trans Kc212 (allS (Or.inr sz_b204) (allS (Or.inr sz_ab206) all0))
    have pre213 : ∀ t, Steps p.tables e below (T212.setTop (mkF m 198 #[iv p0, iv p1, iv p2, iv p3, iv p4, iv p5, iv va, iv vb, iv vc, iv (3 : Int32), iv (p4 &&& (7 : Int32)), iv off, rv b204, .unset, .unset, .unset, .unset, .unset, .unset] [(.int off), (.ref b204)])) t → Steps p.tables e below (s₁.setTop (entryFrame m #[(.int p0), (.int p1), (.int p2), (.int p3), (.int p4), (.int p5)] maxLocals)) t := by
      intro t kt
      refine pre211 _ ?_
      show Steps p.tables e below (T210.setTop (mkF m 190 #[iv p0, iv p1, iv p2, iv p3, iv p4, iv p5, iv va, iv vb, iv vc, iv (3 : Int32), iv (p4 &&& (7 : Int32)), iv off, rv b204, .unset, .unset, .unset, .unset, .unset, .unset] [(.int vc), (.ref b204)])) _
      refine st212.trans ?_
      show Steps p.tables e below (T212.setTop (mkF m 193 #[iv p0, iv p1, iv p2, iv p3, iv p4, iv p5, iv va, iv vb, iv vc, iv (3 : Int32), iv (p4 &&& (7 : Int32)), iv off, rv b204, .unset, .unset, .unset, .unset, .unset, .unset] [(.int (2 : Int32))])) _
      refine XS.pop X212.here hx rfl (hb hby at_193) rfl rfl ?_
      refine XS.aload X212.here hx rfl (hb hby at_194) rfl rfl ?_
      refine XS.iload X212.here hx rfl (hb hby at_196) rfl ?_
      exact kt
    obtain ⟨cq214, kq214, q214a, q214b, q214c⟩ := isOf hZ rfl ((((A204.keep Kc206).keep Kc208).keep Kc210).keep Kc212)
    obtain ⟨_, _, ⟨T214, L214, k214, n214⟩, -, X214, ⟨Lc214, hQ214, l214, y214, z214⟩, st214⟩ := X212.virtualBack hx (y := (⟨"com/example/bytewright/bytewright/grid/ObjectStarts", "forgetFrom", "(I)V"⟩ : MethodName)) (z := (⟨"com/example/bytewright/bytewright/grid/ObjectStarts", "forgetFrom", "(I)V"⟩ : MethodName)) hown (mvT hZ (hw _ (List.mem_of_getElem? (i := 20) rfl))) (mvT hZ (hw _ (List.mem_of_getElem? (i := 21) rfl))) (notFace_of_selects (args := #[]) (mvT hZ (hw _ (List.mem_of_getElem? (i := 23) rfl)))) (mvT hZ (hw _ (List.mem_of_getElem? (i := 23) rfl))) (mvT hZ (hw _ (List.mem_of_getElem? (i := 22) rfl))) (by decide) (backOf (W := 0) (rm4c3 l Z a0 hw [] b204 off ab206 kb206 va vb vc (0 : Int32) T212.heap n0 (Nat.le_trans Z0 K212.1) Fo212 Fn212 ((((A204.keep Kc206).keep Kc208).keep Kc210).keep Kc212) g_b204 Va212 g_ab206 hne206) hZ (hw _ (List.mem_of_getElem? (i := 24) rfl)) (hw _ (List.mem_of_getElem? (i := 3) rfl)) (by decide) (by decide)) q214a q214c (g := (mkF m 198 #[iv p0, iv p1, iv p2, iv p3, iv p4, iv p5, iv va, iv vb, iv vc, iv (3 : Int32), iv (p4 &&& (7 : Int32)), iv off, rv b204, .unset, .unset, .unset, .unset, .unset, .unset] [(.int off), (.ref b204)])) rfl (by rw [hml]; rfl) (Steps.refl _) (argsL := [(.int off)]) (rest := []) (lenOf pd6 rfl) rfl (by show 2 * 0 + _ ≤ _; exact Nat.le_of_eq rfl) (hb hby at_198) (fun _ _ => ⟨rfl, rfl, (by decide : 2 + 0 ≤ _), (by decide : 18 + 0 ≤ _)⟩)
    dsimp only [Pt.U, Pt.locs, Pt.cells, Pt.slots] at X214 l214 y214 z214 st214 hQ214
    subst l214 y214 z214
    obtain ⟨kk214, rfl, N214q, Kc214, Fo214, Fn214, Va214, hs214⟩ := hQ214
    have N214 := Fr.app N212 N214q
    have K214 : Keep h0 T214.heap [] := K212.trans Kc214 (allS (Or.inr sz_b204) (allS (Or.inr sz_ab206) all0))
    have pre215 : ∀ t, Steps p.tables e below (T214.setTop (mkF m 201 #[iv p0, iv p1, iv p2, iv p3, iv p4, iv p5, iv va, iv vb, iv vc, iv (3 : Int32), iv (p4 &&& (7 : Int32)), iv off, rv b204, .unset, .unset, .unset, .unset, .unset, .unset] [])) t → Steps p.tables e below (s₁.setTop (entryFrame m #[(.int p0), (.int p1), (.int p2), (.int p3), (.int p4), (.int p5)] maxLocals)) t := by
      intro t kt
      refine pre213 _ ?_
      show Steps p.tables e below (T212.setTop (mkF m 198 #[iv p0, iv p1, iv p2, iv p3, iv p4, iv p5, iv va, iv vb, iv vc, iv (3 : Int32), iv (p4 &&& (7 : Int32)), iv off, rv b204, .unset, .unset, .unset, .unset, .unset, .unset] [(.int off), (.ref b204)])) _
      refine st214.trans ?_
      exact kt
    rcases hs214 with ⟨t2, rfl⟩ | ⟨t2, t1, rfl⟩ | ⟨t2, t1, t0, rfl⟩ | ⟨t2, t1, t0, rfl⟩
    · have hkk := Nat.le_refl 0
      rw [Int32.lt_iff_toInt_lt] at t2
      have pre217 : ∀ t, Steps p.tables e below (T214.setTop (mkF m 211 #[iv p0, iv p1, iv p2, iv p3, iv p4, iv p5, iv va, iv vb, iv vc, iv (3 : Int32), iv (p4 &&& (7 : Int32)), iv off, rv b204, .unset, .unset, .unset, .unset, .unset, .unset] [(.int off), (.int va)])) t → Steps p.tables e below (s₁.setTop (entryFrame m #[(.int p0), (.int p1), (.int p2), (.int p3), (.int p4), (.int p5)] maxLocals)) t := by
        intro t kt
        refine pre215 _ ?_
        show Steps p.tables e below (T214.setTop (mkF m 201 #[iv p0, iv p1, iv p2, iv p3, iv p4, iv p5, iv va, iv vb, iv vc, iv (3 : Int32), iv (p4 &&& (7 : Int32)), iv off, rv b204, .unset, .unset, .unset, .unset, .unset, .unset] [])) _
        refine XS.iload X214.here hx rfl (hb hby at_201) rfl ?_
        refine XS.iconst X214.here hx rfl (hb hby at_203) ?_
        refine XS.icmpNo X214.here hx rfl (hb hby at_204) rfl (flt (by decide)).1 ?_
        refine XS.iload X214.here hx rfl (hb hby at_207) rfl ?_
        refine XS.iload X214.here hx rfl (hb hby at_209) rfl ?_
        exact kt
      have hc211_216 : va < off := by rw [Int32.lt_iff_toInt_lt]; omega
      have pre219 : ∀ t, Steps p.tables e below (T214.setTop (mkF m 231 #[iv p0, iv p1, iv p2, iv p3, iv p4, iv p5, iv va, iv vb, iv vc, iv (3 : Int32), iv (p4 &&& (7 : Int32)), iv off, rv b204, iv (1 : Int32), .unset, .unset, .unset, .unset, .unset] [(.int off), (.int vb)])) t → Steps p.tables e below (s₁.setTop (entryFrame m #[(.int p0), (.int p1), (.int p2), (.int p3), (.int p4), (.int p5)] maxLocals)) t := by
        intro t kt
        refine pre217 _ ?_
        show Steps p.tables e below (T214.setTop (mkF m 211 #[iv p0, iv p1, iv p2, iv p3, iv p4, iv p5, iv va, iv vb, iv vc, iv (3 : Int32), iv (p4 &&& (7 : Int32)), iv off, rv b204, .unset, .unset, .unset, .unset, .unset, .unset] [(.int off), (.int va)])) _
        refine XS.icmpNo X214.here hx rfl (hb hby at_211) rfl (tlt hc211_216).2.1 ?_
        refine XS.iconst X214.here hx rfl (hb hby at_214) ?_
        refine XS.goto X214.here hx rfl (pc0 := 215) (pc' := 219) rfl (hb hby at_215) (by decide) (by decide) ?_
        refine XS.istore X214.here hx rfl (hb hby at_219) rfl (l' := #[iv p0, iv p1, iv p2, iv p3, iv p4, iv p5, iv va, iv vb, iv vc, iv (3 : Int32), iv (p4 &&& (7 : Int32)), iv off, rv b204, iv (1 : Int32), .unset, .unset, .unset, .unset, .unset]) rfl ?_
        refine XS.iload X214.here hx rfl (hb hby at_221) rfl ?_
        refine XS.iconst X214.here hx rfl (hb hby at_223) ?_
        refine XS.icmpNo X214.here hx rfl (hb hby at_224) rfl (flt (by decide)).1 ?_
        refine XS.iload X214.here hx rfl (hb hby at_227) rfl ?_
        show Steps p.tables e below (T214.setTop (mkF m 229 #[iv p0, iv p1, iv p2, iv p3, iv p4, iv p5, iv va, iv vb, iv vc, iv (3 : Int32), iv (p4 &&& (7 : Int32)), iv off, rv b204, iv (1 : Int32), .unset, .unset, .unset, .unset, .unset] [(.int vb)])) _
        refine XS.iload X214.here hx rfl (hb hby at_229) rfl ?_
        exact kt
      have hc231_218 : vb < off := by rw [Int32.lt_iff_toInt_lt]; omega
      have pre221 : ∀ t, Steps p.tables e below (T214.setTop (mkF m 251 #[iv p0, iv p1, iv p2, iv p3, iv p4, iv p5, iv va, iv vb, iv vc, iv (3 : Int32), iv (p4 &&& (7 : Int32)), iv off, rv b204, iv (1 : Int32), iv (1 : Int32), .unset, .unset, .unset, .unset] [(.int off), (.int vc)])) t → Steps p.tables e below (s₁.setTop (entryFrame m #[(.int p0), (.int p1), (.int p2), (.int p3), (.int p4), (.int p5)] maxLocals)) t := by
        intro t kt
        refine pre219 _ ?_
        show Steps p.tables e below (T214.setTop (mkF m 231 #[iv p0, iv p1, iv p2, iv p3, iv p4, iv p5, iv va, iv vb, iv vc, iv (3 : Int32), iv (p4 &&& (7 : Int32)), iv off, rv b204, iv (1 : Int32), .unset, .unset, .unset, .unset, .unset] [(.int off), (.int vb)])) _
        refine XS.icmpNo X214.here hx rfl (hb hby at_231) rfl (tlt hc231_218).2.1 ?_
        refine XS.iconst X214.here hx rfl (hb hby at_234) ?_
        refine XS.goto X214.here hx rfl (pc0 := 235) (pc' := 239) rfl (hb hby at_235) (by decide) (by decide) ?_
        refine XS.istore X214.here hx rfl (hb hby at_239) rfl (l' := #[iv p0, iv p1, iv p2, iv p3, iv p4, iv p5, iv va, iv vb, iv vc, iv (3 : Int32), iv (p4 &&& (7 : Int32)), iv off, rv b204, iv (1 : Int32), iv (1 : Int32), .unset, .unset, .unset, .unset]) rfl ?_
        refine XS.iload X214.here hx rfl (hb hby at_241) rfl ?_
        refine XS.iconst X214.here hx rfl (hb hby at_243) ?_
        refine XS.icmpNo X214.here hx rfl (hb hby at_244) rfl (flt (by decide)).1 ?_
        refine XS.iload X214.here hx rfl (hb hby at_247) rfl ?_
        show Steps p.tables e below (T214.setTop (mkF m 249 #[iv p0, iv p1, iv p2, iv p3, iv p4, iv p5, iv va, iv vb, iv vc, iv (3 : Int32), iv (p4 &&& (7 : Int32)), iv off, rv b204, iv (1 : Int32), iv (1 : Int32), .unset, .unset, .unset, .unset] [(.int vc)])) _
        refine XS.iload X214.here hx rfl (hb hby at_249) rfl ?_
        exact kt
      have hc251_220 : vc < off := by rw [Int32.lt_iff_toInt_lt]; omega
      obtain ⟨vt, h_vt⟩ : ∃ z : Int32, z = (vc + (1 : Int32)) := ⟨_, rfl⟩
      have hvt := own_next vc vt h_vt (by omega)
      have pre222 : ∀ t, Steps p.tables e below (T214.setTop (mkF m 310 #[iv p0, iv p1, iv p2, iv p3, iv p4, iv p5, iv va, iv vb, iv vc, iv (3 : Int32), iv (p4 &&& (7 : Int32)), iv off, rv b204, iv (1 : Int32), iv (1 : Int32), iv (1 : Int32), iv (3 : Int32), iv vt, .unset] [(.int (vt - va)), (.int vt), (.ref b204)])) t → Steps p.tables e below (s₁.setTop (entryFrame m #[(.int p0), (.int p1), (.int p2), (.int p3), (.int p4), (.int p5)] maxLocals)) t := by
        intro t kt
        refine pre221 _ ?_
        show Steps p.tables e below (T214.setTop (mkF m 251 #[iv p0, iv p1, iv p2, iv p3, iv p4, iv p5, iv va, iv vb, iv vc, iv (3 : Int32), iv (p4 &&& (7 : Int32)), iv off, rv b204, iv (1 : Int32), iv (1 : Int32), .unset, .unset, .unset, .unset] [(.int off), (.int vc)])) _
        refine XS.icmpNo X214.here hx rfl (hb hby at_251) rfl (tlt hc251_220).2.1 ?_
        refine XS.iconst X214.here hx rfl (hb hby at_254) ?_
        refine XS.goto X214.here hx rfl (pc0 := 255) (pc' := 259) rfl (hb hby at_255) (by decide) (by decide) ?_
        refine XS.istore X214.here hx rfl (hb hby at_259) rfl (l' := #[iv p0, iv p1, iv p2, iv p3, iv p4, iv p5, iv va, iv vb, iv vc, iv (3 : Int32), iv (p4 &&& (7 : Int32)), iv off, rv b204, iv (1 : Int32), iv (1 : Int32), iv (1 : Int32), .unset, .unset, .unset]) rfl ?_
        refine XS.iload X214.here hx rfl (hb hby at_261) rfl ?_
        refine XS.ifNo X214.here hx rfl (hb hby at_263) rfl ((if0 _ _).trans (feq (by decide)).1) ?_
        refine XS.iconst X214.here hx rfl (hb hby at_266) ?_
        refine XS.goto X214.here hx rfl (pc0 := 267) (pc' := 271) rfl (hb hby at_267) (by decide) (by decide) ?_
        show Steps p.tables e below (T214.setTop (mkF m 271 #[iv p0, iv p1, iv p2, iv p3, iv p4, iv p5, iv va, iv vb, iv vc, iv (3 : Int32), iv (p4 &&& (7 : Int32)), iv off, rv b204, iv (1 : Int32), iv (1 : Int32), iv (1 : Int32), .unset, .unset, .unset] [(.int (1 : Int32))])) _
        refine XS.iload X214.here hx rfl (hb hby at_271) rfl ?_
        refine XS.ifNo X214.here hx rfl (hb hby at_273) rfl ((if0 _ _).trans (feq (by decide)).1) ?_
        refine XS.iconst X214.here hx rfl (hb hby at_276) ?_
        refine XS.goto X214.here hx rfl (pc0 := 277) (pc' := 281) rfl (hb hby at_277) (by decide) (by decide) ?_
        refine XS.iadd X214.here hx rfl (hb hby at_281) rfl ?_
        show Steps p.tables e below (T214.setTop (mkF m 282 #[iv p0, iv p1, iv p2, iv p3, iv p4, iv p5, iv va, iv vb, iv vc, iv (3 : Int32), iv (p4 &&& (7 : Int32)), iv off, rv b204, iv (1 : Int32), iv (1 : Int32), iv (1 : Int32), .unset, .unset, .unset] [(.int ((1 : Int32) + (1 : Int32)))])) _
        rw [show ((1 : Int32) + (1 : Int32)) = (2 : Int32) from (by decide)]
        show Steps p.tables e below (T214.setTop (mkF m 282 #[iv p0, iv p1, iv p2, iv p3, iv p4, iv p5, iv va, iv vb, iv vc, iv (3 : Int32), iv (p4 &&& (7 : Int32)), iv off, rv b204, iv (1 : Int32), iv (1 : Int32), iv (1 : Int32), .unset, .unset, .unset] [(.int (2 : Int32))])) _
        refine XS.iload X214.here hx rfl (hb hby at_282) rfl ?_
        refine XS.ifNo X214.here hx rfl (hb hby at_284) rfl ((if0 _ _).trans (feq (by decide)).1) ?_
        refine XS.iconst X214.here hx rfl (hb hby at_287) ?_
        refine XS.goto X214.here hx rfl (pc0 := 288) (pc' := 292) rfl (hb hby at_288) (by decide) (by decide) ?_
        refine XS.iadd X214.here hx rfl (hb hby at_292) rfl ?_
        show Steps p.tables e below (T214.setTop (mkF m 293 #[iv p0, iv p1, iv p2, iv p3, iv p4, iv p5, iv va, iv vb, iv vc, iv (3 : Int32), iv (p4 &&& (7 : Int32)), iv off, rv b204, iv (1 : Int32), iv (1 : Int32), iv (1 : Int32), .unset, .unset, .unset] [(.int ((2 : Int32) + (1 : Int32)))])) _
        rw [show ((2 : Int32) + (1 : Int32)) = (3 : Int32) from (by decide)]
        show Steps p.tables e below (T214.setTop (mkF m 293 #[iv p0, iv p1, iv p2, iv p3, iv p4, iv p5, iv va, iv vb, iv vc, iv (3 : Int32), iv (p4 &&& (7 : Int32)), iv off, rv b204, iv (1 : Int32), iv (1 : Int32), iv (1 : Int32), .unset, .unset, .unset] [(.int (3 : Int32))])) _
        refine XS.istore X214.here hx rfl (hb hby at_293) rfl (l' := #[iv p0, iv p1, iv p2, iv p3, iv p4, iv p5, iv va, iv vb, iv vc, iv (3 : Int32), iv (p4 &&& (7 : Int32)), iv off, rv b204, iv (1 : Int32), iv (1 : Int32), iv (1 : Int32), iv (3 : Int32), .unset, .unset]) rfl ?_
        refine XS.iload X214.here hx rfl (hb hby at_295) rfl ?_
        refine XS.iconst X214.here hx rfl (hb hby at_297) ?_
        refine XS.iadd X214.here hx rfl (hb hby at_298) rfl ?_
        refine XS.istore X214.here hx rfl (hb hby at_299) rfl (l' := #[iv p0, iv p1, iv p2, iv p3, iv p4, iv p5, iv va, iv vb, iv vc, iv (3 : Int32), iv (p4 &&& (7 : Int32)), iv off, rv b204, iv (1 : Int32), iv (1 : Int32), iv (1 : Int32), iv (3 : Int32), iv (vc + (1 : Int32)), .unset]) rfl ?_
        show Steps p.tables e below (T214.setTop (mkF m 301 #[iv p0, iv p1, iv p2, iv p3, iv p4, iv p5, iv va, iv vb, iv vc, iv (3 : Int32), iv (p4 &&& (7 : Int32)), iv off, rv b204, iv (1 : Int32), iv (1 : Int32), iv (1 : Int32), iv (3 : Int32), iv (vc + (1 : Int32)), .unset] [])) _
        rw [← h_vt]
        show Steps p.tables e below (T214.setTop (mkF m 301 #[iv p0, iv p1, iv p2, iv p3, iv p4, iv p5, iv va, iv vb, iv vc, iv (3 : Int32), iv (p4 &&& (7 : Int32)), iv off, rv b204, iv (1 : Int32), iv (1 : Int32), iv (1 : Int32), iv (3 : Int32), iv vt, .unset] [])) _
        refine XS.aload X214.here hx rfl (hb hby at_301) rfl rfl ?_
        refine XS.iload X214.here hx rfl (hb hby at_303) rfl ?_
        refine XS.iload X214.here hx rfl (hb hby at_305) rfl ?_
        refine XS.iload X214.here hx rfl (hb hby at_307) rfl ?_
        refine XS.isub X214.here hx rfl (hb hby at_309) rfl ?_
        exact kt
      obtain ⟨cq223, kq223, q223a, q223b, q223c⟩ := isOf hZ rfl (((((A204.keep Kc206).keep Kc208).keep Kc210).keep Kc212).keep Kc214)
      obtain ⟨_, _, ⟨T223, L223, k223, n223⟩, -, X223, ⟨Lc223, hQ223, l223, y223, z223⟩, st223⟩ := X214.virtualBack hx (y := (⟨"com/example/bytewright/bytewright/grid/ObjectStarts", "indexOf", "(II)I"⟩ : MethodName)) (z := (⟨"com/example/bytewright/bytewright/grid/ObjectStarts", "indexOf", "(II)I"⟩ : MethodName)) hown (mvT hZ (hw _ (List.mem_of_getElem? (i := 25) rfl))) (mvT hZ (hw _ (List.mem_of_getElem? (i := 26) rfl))) (notFace_of_selects (args := #[]) (mvT hZ (hw _ (List.mem_of_getElem? (i := 28) rfl)))) (mvT hZ (hw _ (List.mem_of_getElem? (i := 28) rfl))) (mvT hZ (hw _ (List.mem_of_getElem? (i := 27) rfl))) (by decide) (backOf (W := 0) (rm5c3 l Z a0 hw [] b204 vt (vt - va) ab206 kb206 va vb vc (0 : Int32) va T214.heap n0 (Nat.le_trans Z0 K214.1) Fo214 Fn214 (((((A204.keep Kc206).keep Kc208).keep Kc210).keep Kc212).keep Kc214) Va214 hne206 (own_key vt va (by have := own_next vc vt h_vt (by omega); omega)).1 (own_key vt va (by have := own_next vc vt h_vt (by omega); omega)).2.1 (own_key vt va (by have := own_next vc vt h_vt (by omega); omega)).2.2) hZ (hw _ (List.mem_of_getElem? (i := 29) rfl)) (hw _ (List.mem_of_getElem? (i := 3) rfl)) (by decide) (by decide)) q223a q223c (g := (mkF m 310 #[iv p0, iv p1, iv p2, iv p3, iv p4, iv p5, iv va, iv vb, iv vc, iv (3 : Int32), iv (p4 &&& (7 : Int32)), iv off, rv b204, iv (1 : Int32), iv (1 : Int32), iv (1 : Int32), iv (3 : Int32), iv vt, .unset] [(.int (vt - va)), (.int vt), (.ref b204)])) rfl (by rw [hml]; rfl) (Steps.refl _) (argsL := [(.int vt), (.int (vt - va))]) (rest := []) (lenOf pd7 rfl) rfl (by show 2 * 0 + _ ≤ _; exact Nat.le_of_eq rfl) (hb hby at_310) (fun _ _ => ⟨rfl, rfl, (by decide : 2 + 0 ≤ _), (by decide : 18 + 0 ≤ _)⟩)
      dsimp only [Pt.U, Pt.locs, Pt.cells, Pt.slots] at X223 l223 y223 z223 st223 hQ223
      subst l223 y223 z223
      obtain ⟨rfl, N223q, hh223⟩ := hQ223
      have N223 := Fr.app N214 N223q
      have pre225 : ∀ t, Steps p.tables e below (T223.setTop (mkF m 323 #[iv p0, iv p1, iv p2, iv p3, iv p4, iv p5, iv va, iv vb, iv vc, iv (3 : Int32), iv (p4 &&& (7 : Int32)), iv off, rv b204, iv (1 : Int32), iv (1 : Int32), iv (1 : Int32), iv (3 : Int32), iv vt, .unset] [(.int (0 : Int32)), (.int (own_ix3 va va vb vc (0 : Int32)))])) t → Steps p.tables e below (s₁.setTop (entryFrame m #[(.int p0), (.int p1), (.int p2), (.int p3), (.int p4), (.int p5)] maxLocals)) t := by
        intro t kt
        refine pre222 _ ?_
        show Steps p.tables e below (T214.setTop (mkF m 310 #[iv p0, iv p1, iv p2, iv p3, iv p4, iv p5, iv va, iv vb, iv vc, iv (3 : Int32), iv (p4 &&& (7 : Int32)), iv off, rv b204, iv (1 : Int32), iv (1 : Int32), iv (1 : Int32), iv (3 : Int32), iv vt, .unset] [(.int (vt - va)), (.int vt), (.ref b204)])) _
        refine st223.trans ?_
        show Steps p.tables e below (T223.setTop (mkF m 313 #[iv p0, iv p1, iv p2, iv p3, iv p4, iv p5, iv va, iv vb, iv vc, iv (3 : Int32), iv (p4 &&& (7 : Int32)), iv off, rv b204, iv (1 : Int32), iv (1 : Int32), iv (1 : Int32), iv (3 : Int32), iv vt, .unset] [(.int (own_ix3 va va vb vc (0 : Int32)))])) _
        refine XS.iload X223.here hx rfl (hb hby at_313) rfl ?_
        refine XS.ifNo X223.here hx rfl (hb hby at_315) rfl ((if0 _ _).trans (feq (by decide)).1) ?_
        refine XS.iconst X223.here hx rfl (hb hby at_318) ?_
        refine XS.goto X223.here hx rfl (pc0 := 319) (pc' := 323) rfl (hb hby at_319) (by decide) (by decide) ?_
        exact kt
      have hc323_224 : (own_ix3 va va vb vc (0 : Int32)) = (0 : Int32) := by simp +decide [own_ix3, own_bs3, hab, hbc, hac, nba, ncb, nca, Int32.lt_irrefl]
      have pre226 : ∀ t, Steps p.tables e below (T223.setTop (mkF m 335 #[iv p0, iv p1, iv p2, iv p3, iv p4, iv p5, iv va, iv vb, iv vc, iv (3 : Int32), iv (p4 &&& (7 : Int32)), iv off, rv b204, iv (1 : Int32), iv (1 : Int32), iv (1 : Int32), iv (3 : Int32), iv vt, .unset] [(.int (vt - vb)), (.int vt), (.ref b204)])) t → Steps p.tables e below (s₁.setTop (entryFrame m #[(.int p0), (.int p1), (.int p2), (.int p3), (.int p4), (.int p5)] maxLocals)) t := by
        intro t kt
        refine pre225 _ ?_
        show Steps p.tables e below (T223.setTop (mkF m 323 #[iv p0, iv p1, iv p2, iv p3, iv p4, iv p5, iv va, iv vb, iv vc, iv (3 : Int32), iv (p4 &&& (7 : Int32)), iv off, rv b204, iv (1 : Int32), iv (1 : Int32), iv (1 : Int32), iv (3 : Int32), iv vt, .unset] [(.int (0 : Int32)), (.int (own_ix3 va va vb vc (0 : Int32)))])) _
        refine XS.icmpNo X223.here hx rfl (hb hby at_323) rfl (teq hc323_224).2 ?_
        refine XS.aload X223.here hx rfl (hb hby at_326) rfl rfl ?_
        refine XS.iload X223.here hx rfl (hb hby at_328) rfl ?_
        refine XS.iload X223.here hx rfl (hb hby at_330) rfl ?_
        refine XS.iload X223.here hx rfl (hb hby at_332) rfl ?_
        refine XS.isub X223.here hx rfl (hb hby at_334) rfl ?_
        exact kt
      obtain ⟨cq227, kq227, q227a, q227b, q227c⟩ := isOf hZ hh223 (((((A204.keep Kc206).keep Kc208).keep Kc210).keep Kc212).keep Kc214)
      obtain ⟨_, _, ⟨T227, L227, k227, n227⟩, -, X227, ⟨Lc227, hQ227, l227, y227, z227⟩, st227⟩ := X223.virtualBack hx (y := (⟨"com/example/bytewright/bytewright/grid/ObjectStarts", "indexOf", "(II)I"⟩ : MethodName)) (z := (⟨"com/example/bytewright/bytewright/grid/ObjectStarts", "indexOf", "(II)I"⟩ : MethodName)) hown (mvT hZ (hw _ (List.mem_of_getElem? (i := 25) rfl))) (mvT hZ (hw _ (List.mem_of_getElem? (i := 26) rfl))) (notFace_of_selects (args := #[]) (mvT hZ (hw _ (List.mem_of_getElem? (i := 28) rfl)))) (mvT hZ (hw _ (List.mem_of_getElem? (i := 28) rfl))) (mvT hZ (hw _ (List.mem_of_getElem? (i := 27) rfl))) (by decide) (backOf (W := 0) (rm5c3 l Z a0 hw [] b204 vt (vt - vb) ab206 kb206 va vb vc (0 : Int32) vb T214.heap n0 (Nat.le_trans Z0 K214.1) Fo214 Fn214 (((((A204.keep Kc206).keep Kc208).keep Kc210).keep Kc212).keep Kc214) Va214 hne206 (own_key vt vb (by have := own_next vc vt h_vt (by omega); omega)).1 (own_key vt vb (by have := own_next vc vt h_vt (by omega); omega)).2.1 (own_key vt vb (by have := own_next vc vt h_vt (by omega); omega)).2.2) hZ (hw _ (List.mem_of_getElem? (i := 29) rfl)) (hw _ (List.mem_of_getElem? (i := 3) rfl)) (by decide) (by decide)) q227a q227c (g := (mkF m 335 #[iv p0, iv p1, iv p2, iv p3, iv p4, iv p5, iv va, iv vb, iv vc, iv (3 : Int32), iv (p4 &&& (7 : Int32)), iv off, rv b204, iv (1 : Int32), iv (1 : Int32), iv (1 : Int32), iv (3 : Int32), iv vt, .unset] [(.int (vt - vb)), (.int vt), (.ref b204)])) rfl (by rw [hml]; rfl) (Steps.refl _) (argsL := [(.int vt), (.int (vt - vb))]) (rest := []) (lenOf pd7 rfl) rfl (by show 2 * 0 + _ ≤ _; exact Nat.le_of_eq rfl) (hb hby at_335) (fun _ _ => ⟨rfl, hh223, (by decide : 2 + 0 ≤ _), (by decide : 18 + 0 ≤ _)⟩)
      dsimp only [Pt.U, Pt.locs, Pt.cells, Pt.slots] at X227 l227 y227 z227 st227 hQ227
      subst l227 y227 z227
      obtain ⟨rfl, N227q, hh227⟩ := hQ227
      have N227 := Fr.app N223 N227q
      have pre229 : ∀ t, Steps p.tables e below (T227.setTop (mkF m 348 #[iv p0, iv p1, iv p2, iv p3, iv p4, iv p5, iv va, iv vb, iv vc, iv (3 : Int32), iv (p4 &&& (7 : Int32)), iv off, rv b204, iv (1 : Int32), iv (1 : Int32), iv (1 : Int32), iv (3 : Int32), iv vt, .unset] [(.int (1 : Int32)), (.int (own_ix3 vb va vb vc (0 : Int32)))])) t → Steps p.tables e below (s₁.setTop (entryFrame m #[(.int p0), (.int p1), (.int p2), (.int p3), (.int p4), (.int p5)] maxLocals)) t := by
        intro t kt
        refine pre226 _ ?_
        show Steps p.tables e below (T223.setTop (mkF m 335 #[iv p0, iv p1, iv p2, iv p3, iv p4, iv p5, iv va, iv vb, iv vc, iv (3 : Int32), iv (p4 &&& (7 : Int32)), iv off, rv b204, iv (1 : Int32), iv (1 : Int32), iv (1 : Int32), iv (3 : Int32), iv vt, .unset] [(.int (vt - vb)), (.int vt), (.ref b204)])) _
        refine st227.trans ?_
        show Steps p.tables e below (T227.setTop (mkF m 338 #[iv p0, iv p1, iv p2, iv p3, iv p4, iv p5, iv va, iv vb, iv vc, iv (3 : Int32), iv (p4 &&& (7 : Int32)), iv off, rv b204, iv (1 : Int32), iv (1 : Int32), iv (1 : Int32), iv (3 : Int32), iv vt, .unset] [(.int (own_ix3 vb va vb vc (0 : Int32)))])) _
        refine XS.iload X227.here hx rfl (hb hby at_338) rfl ?_
        refine XS.ifNo X227.here hx rfl (hb hby at_340) rfl ((if0 _ _).trans (feq (by decide)).1) ?_
        refine XS.iconst X227.here hx rfl (hb hby at_343) ?_
        refine XS.goto X227.here hx rfl (pc0 := 344) (pc' := 348) rfl (hb hby at_344) (by decide) (by decide) ?_
        exact kt
      have hc348_228 : (own_ix3 vb va vb vc (0 : Int32)) = (1 : Int32) := by simp +decide [own_ix3, own_bs3, hab, hbc, hac, nba, ncb, nca, Int32.lt_irrefl]
      have pre230 : ∀ t, Steps p.tables e below (T227.setTop (mkF m 360 #[iv p0, iv p1, iv p2, iv p3, iv p4, iv p5, iv va, iv vb, iv vc, iv (3 : Int32), iv (p4 &&& (7 : Int32)), iv off, rv b204, iv (1 : Int32), iv (1 : Int32), iv (1 : Int32), iv (3 : Int32), iv vt, .unset] [(.int (vt - vc)), (.int vt), (.ref b204)])) t → Steps p.tables e below (s₁.setTop (entryFrame m #[(.int p0), (.int p1), (.int p2), (.int p3), (.int p4), (.int p5)] maxLocals)) t := by
        intro t kt
        refine pre229 _ ?_
        show Steps p.tables e below (T227.setTop (mkF m 348 #[iv p0, iv p1, iv p2, iv p3, iv p4, iv p5, iv va, iv vb, iv vc, iv (3 : Int32), iv (p4 &&& (7 : Int32)), iv off, rv b204, iv (1 : Int32), iv (1 : Int32), iv (1 : Int32), iv (3 : Int32), iv vt, .unset] [(.int (1 : Int32)), (.int (own_ix3 vb va vb vc (0 : Int32)))])) _
        refine XS.icmpNo X227.here hx rfl (hb hby at_348) rfl (teq hc348_228).2 ?_
        refine XS.aload X227.here hx rfl (hb hby at_351) rfl rfl ?_
        refine XS.iload X227.here hx rfl (hb hby at_353) rfl ?_
        refine XS.iload X227.here hx rfl (hb hby at_355) rfl ?_
        refine XS.iload X227.here hx rfl (hb hby at_357) rfl ?_
        refine XS.isub X227.here hx rfl (hb hby at_359) rfl ?_
        exact kt
      obtain ⟨cq231, kq231, q231a, q231b, q231c⟩ := isOf hZ hh227 (((((A204.keep Kc206).keep Kc208).keep Kc210).keep Kc212).keep Kc214)
      obtain ⟨_, _, ⟨T231, L231, k231, n231⟩, -, X231, ⟨Lc231, hQ231, l231, y231, z231⟩, st231⟩ := X227.virtualBack hx (y := (⟨"com/example/bytewright/bytewright/grid/ObjectStarts", "indexOf", "(II)I"⟩ : MethodName)) (z := (⟨"com/example/bytewright/bytewright/grid/ObjectStarts", "indexOf", "(II)I"⟩ : MethodName)) hown (mvT hZ (hw _ (List.mem_of_getElem? (i := 25) rfl))) (mvT hZ (hw _ (List.mem_of_getElem? (i := 26) rfl))) (notFace_of_selects (args := #[]) (mvT hZ (hw _ (List.mem_of_getElem? (i := 28) rfl)))) (mvT hZ (hw _ (List.mem_of_getElem? (i := 28) rfl))) (mvT hZ (hw _ (List.mem_of_getElem? (i := 27) rfl))) (by decide) (backOf (W := 0) (rm5c3 l Z a0 hw [] b204 vt (vt - vc) ab206 kb206 va vb vc (0 : Int32) vc T214.heap n0 (Nat.le_trans Z0 K214.1) Fo214 Fn214 (((((A204.keep Kc206).keep Kc208).keep Kc210).keep Kc212).keep Kc214) Va214 hne206 (own_key vt vc (by have := own_next vc vt h_vt (by omega); omega)).1 (own_key vt vc (by have := own_next vc vt h_vt (by omega); omega)).2.1 (own_key vt vc (by have := own_next vc vt h_vt (by omega); omega)).2.2) hZ (hw _ (List.mem_of_getElem? (i := 29) rfl)) (hw _ (List.mem_of_getElem? (i := 3) rfl)) (by decide) (by decide)) q231a q231c (g := (mkF m 360 #[iv p0, iv p1, iv p2, iv p3, iv p4, iv p5, iv va, iv vb, iv vc, iv (3 : Int32), iv (p4 &&& (7 : Int32)), iv off, rv b204, iv (1 : Int32), iv (1 : Int32), iv (1 : Int32), iv (3 : Int32), iv vt, .unset] [(.int (vt - vc)), (.int vt), (.ref b204)])) rfl (by rw [hml]; rfl) (Steps.refl _) (argsL := [(.int vt), (.int (vt - vc))]) (rest := []) (lenOf pd7 rfl) rfl (by show 2 * 0 + _ ≤ _; exact Nat.le_of_eq rfl) (hb hby at_360) (fun _ _ => ⟨rfl, hh227, (by decide : 2 + 0 ≤ _), (by decide : 18 + 0 ≤ _)⟩)
      dsimp only [Pt.U, Pt.locs, Pt.cells, Pt.slots] at X231 l231 y231 z231 st231 hQ231
      subst l231 y231 z231
      obtain ⟨rfl, N231q, hh231⟩ := hQ231
      have N231 := Fr.app N227 N231q
      have pre233 : ∀ t, Steps p.tables e below (T231.setTop (mkF m 373 #[iv p0, iv p1, iv p2, iv p3, iv p4, iv p5, iv va, iv vb, iv vc, iv (3 : Int32), iv (p4 &&& (7 : Int32)), iv off, rv b204, iv (1 : Int32), iv (1 : Int32), iv (1 : Int32), iv (3 : Int32), iv vt, .unset] [(.int (2 : Int32)), (.int (own_ix3 vc va vb vc (0 : Int32)))])) t → Steps p.tables e below (s₁.setTop (entryFrame m #[(.int p0), (.int p1), (.int p2), (.int p3), (.int p4), (.int p5)] maxLocals)) t := by
        intro t kt
        refine pre230 _ ?_
        show Steps p.tables e below (T227.setTop (mkF m 360 #[iv p0, iv p1, iv p2, iv p3, iv p4, iv p5, iv va, iv vb, iv vc, iv (3 : Int32), iv (p4 &&& (7 : Int32)), iv off, rv b204, iv (1 : Int32), iv (1 : Int32), iv (1 : Int32), iv (3 : Int32), iv vt, .unset] [(.int (vt - vc)), (.int vt), (.ref b204)])) _
        refine st231.trans ?_
        show Steps p.tables e below (T231.setTop (mkF m 363 #[iv p0, iv p1, iv p2, iv p3, iv p4, iv p5, iv va, iv vb, iv vc, iv (3 : Int32), iv (p4 &&& (7 : Int32)), iv off, rv b204, iv (1 : Int32), iv (1 : Int32), iv (1 : Int32), iv (3 : Int32), iv vt, .unset] [(.int (own_ix3 vc va vb vc (0 : Int32)))])) _
        refine XS.iload X231.here hx rfl (hb hby at_363) rfl ?_
        refine XS.ifNo X231.here hx rfl (hb hby at_365) rfl ((if0 _ _).trans (feq (by decide)).1) ?_
        refine XS.iconst X231.here hx rfl (hb hby at_368) ?_
        refine XS.goto X231.here hx rfl (pc0 := 369) (pc' := 373) rfl (hb hby at_369) (by decide) (by decide) ?_
        exact kt
      have hc373_232 : (own_ix3 vc va vb vc (0 : Int32)) = (2 : Int32) := by simp +decide [own_ix3, own_bs3, hab, hbc, hac, nba, ncb, nca, Int32.lt_irrefl]
      have pre234 : ∀ t, Steps p.tables e below (T231.setTop (mkF m 392 #[iv p0, iv p1, iv p2, iv p3, iv p4, iv p5, iv va, iv vb, iv vc, iv (3 : Int32), iv (p4 &&& (7 : Int32)), iv off, rv b204, iv (1 : Int32), iv (1 : Int32), iv (1 : Int32), iv (3 : Int32), iv vt, iv (1 : Int32)] [(.int vt), (.ref b204)])) t → Steps p.tables e below (s₁.setTop (entryFrame m #[(.int p0), (.int p1), (.int p2), (.int p3), (.int p4), (.int p5)] maxLocals)) t := by
        intro t kt
        refine pre233 _ ?_
        show Steps p.tables e below (T231.setTop (mkF m 373 #[iv p0, iv p1, iv p2, iv p3, iv p4, iv p5, iv va, iv vb, iv vc, iv (3 : Int32), iv (p4 &&& (7 : Int32)), iv off, rv b204, iv (1 : Int32), iv (1 : Int32), iv (1 : Int32), iv (3 : Int32), iv vt, .unset] [(.int (2 : Int32)), (.int (own_ix3 vc va vb vc (0 : Int32)))])) _
        refine XS.icmpNo X231.here hx rfl (hb hby at_373) rfl (teq hc373_232).2 ?_
        refine XS.iconst X231.here hx rfl (hb hby at_376) ?_
        refine XS.goto X231.here hx rfl (pc0 := 377) (pc' := 381) rfl (hb hby at_377) (by decide) (by decide) ?_
        refine XS.istore X231.here hx rfl (hb hby at_381) rfl (l' := #[iv p0, iv p1, iv p2, iv p3, iv p4, iv p5, iv va, iv vb, iv vc, iv (3 : Int32), iv (p4 &&& (7 : Int32)), iv off, rv b204, iv (1 : Int32), iv (1 : Int32), iv (1 : Int32), iv (3 : Int32), iv vt, iv (1 : Int32)]) rfl ?_
        refine XS.iload X231.here hx rfl (hb hby at_383) rfl ?_
        refine XS.ifNo X231.here hx rfl (hb hby at_385) rfl ((if0 _ _).trans (feq (by decide)).1) ?_
        refine XS.aload X231.here hx rfl (hb hby at_388) rfl rfl ?_
        refine XS.iload X231.here hx rfl (hb hby at_390) rfl ?_
        exact kt
      obtain ⟨cq235, kq235, q235a, q235b, q235c⟩ := isOf hZ hh231 (((((A204.keep Kc206).keep Kc208).keep Kc210).keep Kc212).keep Kc214)
      obtain ⟨_, _, ⟨T235, L235, k235, n235⟩, -, X235, ⟨Lc235, hQ235, l235, y235, z235⟩, st235⟩ := X231.virtualBack hx (y := (⟨"com/example/bytewright/bytewright/grid/ObjectStarts", "add", "(I)I"⟩ : MethodName)) (z := (⟨"com/example/bytewright/bytewright/grid/ObjectStarts", "add", "(I)I"⟩ : MethodName)) hown (mvT hZ (hw _ (List.mem_of_getElem? (i := 13) rfl))) (mvT hZ (hw _ (List.mem_of_getElem? (i := 14) rfl))) (notFace_of_selects (args := #[]) (mvT hZ (hw _ (List.mem_of_getElem? (i := 16) rfl)))) (mvT hZ (hw _ (List.mem_of_getElem? (i := 16) rfl))) (mvT hZ (hw _ (List.mem_of_getElem? (i := 15) rfl))) (by decide) (backOf (W := 0) (rm3c3 l Z a0 hw [] b204 vt ab206 kb206 va vb vc (0 : Int32) T214.heap n0 (Nat.le_trans Z0 K214.1) Fo214 Fn214 (((((A204.keep Kc206).keep Kc208).keep Kc210).keep Kc212).keep Kc214) g_b204 Va214 g_ab206 hne206 (Int32.lt_iff_toInt_lt.mpr (by omega))) hZ (hw _ (List.mem_of_getElem? (i := 17) rfl)) (hw _ (List.mem_of_getElem? (i := 3) rfl)) (by decide) (by decide)) q235a q235c (g := (mkF m 392 #[iv p0, iv p1, iv p2, iv p3, iv p4, iv p5, iv va, iv vb, iv vc, iv (3 : Int32), iv (p4 &&& (7 : Int32)), iv off, rv b204, iv (1 : Int32), iv (1 : Int32), iv (1 : Int32), iv (3 : Int32), iv vt, iv (1 : Int32)] [(.int vt), (.ref b204)])) rfl (by rw [hml]; rfl) (Steps.refl _) (argsL := [(.int vt)]) (rest := []) (lenOf pd8 rfl) rfl (by show 2 * 0 + _ ≤ _; exact Nat.le_of_eq rfl) (hb hby at_392) (fun _ _ => ⟨rfl, hh231, (by decide : 2 + 0 ≤ _), (by decide : 18 + 0 ≤ _)⟩)
      dsimp only [Pt.U, Pt.locs, Pt.cells, Pt.slots] at X235 l235 y235 z235 st235 hQ235
      subst l235 y235 z235
      obtain ⟨rfl, N235q, Kc235, Fo235, Fn235, Va235⟩ := hQ235
      have N235 := Fr.app N231 N235q
      have K235 : Keep h0 T235.heap [] := K214.trans Kc235 (allS (Or.inr sz_b204) (allS (Or.inr sz_ab206) all0))
      have pre236 : ∀ t, Steps p.tables e below (T235.setTop (mkF m 405 #[iv p0, iv p1, iv p2, iv p3, iv p4, iv p5, iv va, iv vb, iv vc, iv (3 : Int32), iv (p4 &&& (7 : Int32)), iv off, rv b204, iv (1 : Int32), iv (1 : Int32), iv (1 : Int32), iv (3 : Int32), iv vt, iv (1 : Int32)] [(.int (1 : Int32))])) t → Steps p.tables e below (s₁.setTop (entryFrame m #[(.int p0), (.int p1), (.int p2), (.int p3), (.int p4), (.int p5)] maxLocals)) t := by
        intro t kt
        refine pre234 _ ?_
        show Steps p.tables e below (T231.setTop (mkF m 392 #[iv p0, iv p1, iv p2, iv p3, iv p4, iv p5, iv va, iv vb, iv vc, iv (3 : Int32), iv (p4 &&& (7 : Int32)), iv off, rv b204, iv (1 : Int32), iv (1 : Int32), iv (1 : Int32), iv (3 : Int32), iv vt, iv (1 : Int32)] [(.int vt), (.ref b204)])) _
        refine st235.trans ?_
        show Steps p.tables e below (T235.setTop (mkF m 395 #[iv p0, iv p1, iv p2, iv p3, iv p4, iv p5, iv va, iv vb, iv vc, iv (3 : Int32), iv (p4 &&& (7 : Int32)), iv off, rv b204, iv (1 : Int32), iv (1 : Int32), iv (1 : Int32), iv (3 : Int32), iv vt, iv (1 : Int32)] [(.int (3 : Int32))])) _
        refine XS.iload X235.here hx rfl (hb hby at_395) rfl ?_
        refine XS.icmpNo X235.here hx rfl (hb hby at_397) rfl (teq (by decide)).2 ?_
        refine XS.iconst X235.here hx rfl (hb hby at_400) ?_
        refine XS.goto X235.here hx rfl (pc0 := 401) (pc' := 405) rfl (hb hby at_401) (by decide) (by decide) ?_
        exact kt
      obtain ⟨fs, hr, hrun, hended, hW, hsame⟩ := X235.leave (v := some (.int (1 : Int32))) (fun h => by rw [Bd.returns] at h; cases h)
      refine ⟨_, _, pre236 _ ?_, hrun, hended, _, _, rfl, ?_, ⟨_, rfl⟩, hW, hsame.mono (by decide) (by decide)⟩
      · show Steps p.tables e below (T235.setTop (mkF m 405 #[iv p0, iv p1, iv p2, iv p3, iv p4, iv p5, iv va, iv vb, iv vc, iv (3 : Int32), iv (p4 &&& (7 : Int32)), iv off, rv b204, iv (1 : Int32), iv (1 : Int32), iv (1 : Int32), iv (3 : Int32), iv vt, iv (1 : Int32)] [(.int (1 : Int32))])) _
        exact retN X235 hx (t := .boolean) Bd.returns (by simp) (hb hby at_405) hr
      · show Q0 Z p0 p1 p2 p3 p4 p5 h0 n0 _ T235.heap _
        exact ⟨rfl, N235⟩
    · have hkk := Nat.le_refl 0
      rw [Int32.lt_iff_toInt_lt] at t2
      rw [Int32.lt_iff_toInt_lt] at t1
      have pre238 : ∀ t, Steps p.tables e below (T214.setTop (mkF m 211 #[iv p0, iv p1, iv p2, iv p3, iv p4, iv p5, iv va, iv vb, iv vc, iv (3 : Int32), iv (p4 &&& (7 : Int32)), iv off, rv b204, .unset, .unset, .unset, .unset, .unset, .unset] [(.int off), (.int va)])) t → Steps p.tables e below (s₁.setTop (entryFrame m #[(.int p0), (.int p1), (.int p2), (.int p3), (.int p4), (.int p5)] maxLocals)) t := by
        intro t kt
        refine pre215 _ ?_
        show Steps p.tables e below (T214.setTop (mkF m 201 #[iv p0, iv p1, iv p2, iv p3, iv p4, iv p5, iv va, iv vb, iv vc, iv (3 : Int32), iv (p4 &&& (7 : Int32)), iv off, rv b204, .unset, .unset, .unset, .unset, .unset, .unset] [])) _
        refine XS.iload X214.here hx rfl (hb hby at_201) rfl ?_
        refine XS.iconst X214.here hx rfl (hb hby at_203) ?_
        refine XS.icmpNo X214.here hx rfl (hb hby at_204) rfl (flt (by decide)).1 ?_
        refine XS.iload X214.here hx rfl (hb hby at_207) rfl ?_
        refine XS.iload X214.here hx rfl (hb hby at_209) rfl ?_
        exact kt
      have hc211_237 : va < off := by rw [Int32.lt_iff_toInt_lt]; omega
      have pre240 : ∀ t, Steps p.tables e below (T214.setTop (mkF m 231 #[iv p0, iv p1, iv p2, iv p3, iv p4, iv p5, iv va, iv vb, iv vc, iv (3 : Int32), iv (p4 &&& (7 : Int32)), iv off, rv b204, iv (1 : Int32), .unset, .unset, .unset, .unset, .unset] [(.int off), (.int vb)])) t → Steps p.tables e below (s₁.setTop (entryFrame m #[(.int p0), (.int p1), (.int p2), (.int p3), (.int p4), (.int p5)] maxLocals)) t := by
        intro t kt
        refine pre238 _ ?_
        show Steps p.tables e below (T214.setTop (mkF m 211 #[iv p0, iv p1, iv p2, iv p3, iv p4, iv p5, iv va, iv vb, iv vc, iv (3 : Int32), iv (p4 &&& (7 : Int32)), iv off, rv b204, .unset, .unset, .unset, .unset, .unset, .unset] [(.int off), (.int va)])) _
        refine XS.icmpNo X214.here hx rfl (hb hby at_211) rfl (tlt hc211_237).2.1 ?_
        refine XS.iconst X214.here hx rfl (hb hby at_214) ?_
        refine XS.goto X214.here hx rfl (pc0 := 215) (pc' := 219) rfl (hb hby at_215) (by decide) (by decide) ?_
        refine XS.istore X214.here hx rfl (hb hby at_219) rfl (l' := #[iv p0, iv p1, iv p2, iv p3, iv p4, iv p5, iv va, iv vb, iv vc, iv (3 : Int32), iv (p4 &&& (7 : Int32)), iv off, rv b204, iv (1 : Int32), .unset, .unset, .unset, .unset, .unset]) rfl ?_
        refine XS.iload X214.here hx rfl (hb hby at_221) rfl ?_
        refine XS.iconst X214.here hx rfl (hb hby at_223) ?_
        refine XS.icmpNo X214.here hx rfl (hb hby at_224) rfl (flt (by decide)).1 ?_
        refine XS.iload X214.here hx rfl (hb hby at_227) rfl ?_
        show Steps p.tables e below (T214.setTop (mkF m 229 #[iv p0, iv p1, iv p2, iv p3, iv p4, iv p5, iv va, iv vb, iv vc, iv (3 : Int32), iv (p4 &&& (7 : Int32)), iv off, rv b204, iv (1 : Int32), .unset, .unset, .unset, .unset, .unset] [(.int vb)])) _
        refine XS.iload X214.here hx rfl (hb hby at_229) rfl ?_
        exact kt
      have hc231_239 : vb < off := by rw [Int32.lt_iff_toInt_lt]; omega
      have pre242 : ∀ t, Steps p.tables e below (T214.setTop (mkF m 251 #[iv p0, iv p1, iv p2, iv p3, iv p4, iv p5, iv va, iv vb, iv vc, iv (3 : Int32), iv (p4 &&& (7 : Int32)), iv off, rv b204, iv (1 : Int32), iv (1 : Int32), .unset, .unset, .unset, .unset] [(.int off), (.int vc)])) t → Steps p.tables e below (s₁.setTop (entryFrame m #[(.int p0), (.int p1), (.int p2), (.int p3), (.int p4), (.int p5)] maxLocals)) t := by
        intro t kt
        refine pre240 _ ?_
        show Steps p.tables e below (T214.setTop (mkF m 231 #[iv p0, iv p1, iv p2, iv p3, iv p4, iv p5, iv va, iv vb, iv vc, iv (3 : Int32), iv (p4 &&& (7 : Int32)), iv off, rv b204, iv (1 : Int32), .unset, .unset, .unset, .unset, .unset] [(.int off), (.int vb)])) _
        refine XS.icmpNo X214.here hx rfl (hb hby at_231) rfl (tlt hc231_239).2.1 ?_
        refine XS.iconst X214.here hx rfl (hb hby at_234) ?_
        refine XS.goto X214.here hx rfl (pc0 := 235) (pc' := 239) rfl (hb hby at_235) (by decide) (by decide) ?_
        refine XS.istore X214.here hx rfl (hb hby at_239) rfl (l' := #[iv p0, iv p1, iv p2, iv p3, iv p4, iv p5, iv va, iv vb, iv vc, iv (3 : Int32), iv (p4 &&& (7 : Int32)), iv off, rv b204, iv (1 : Int32), iv (1 : Int32), .unset, .unset, .unset, .unset]) rfl ?_
        refine XS.iload X214.here hx rfl (hb hby at_241) rfl ?_
        refine XS.iconst X214.here hx rfl (hb hby at_243) ?_
        refine XS.icmpNo X214.here hx rfl (hb hby at_244) rfl (flt (by decide)).1 ?_
        refine XS.iload X214.here hx rfl (hb hby at_247) rfl ?_
        show Steps p.tables e below (T214.setTop (mkF m 249 #[iv p0, iv p1, iv p2, iv p3, iv p4, iv p5, iv va, iv vb, iv vc, iv (3 : Int32), iv (p4 &&& (7 : Int32)), iv off, rv b204, iv (1 : Int32), iv (1 : Int32), .unset, .unset, .unset, .unset] [(.int vc)])) _
        refine XS.iload X214.here hx rfl (hb hby at_249) rfl ?_
        exact kt
      have hc251_241 : ¬ (vc < off) := by rw [Int32.lt_iff_toInt_lt]; omega
      obtain ⟨vt, h_vt⟩ : ∃ z : Int32, z = (vc + (1 : Int32)) := ⟨_, rfl⟩
      have hvt := own_next vc vt h_vt (by omega)
      have pre243 : ∀ t, Steps p.tables e below (T214.setTop (mkF m 310 #[iv p0, iv p1, iv p2, iv p3, iv p4, iv p5, iv va, iv vb, iv vc, iv (3 : Int32), iv (p4 &&& (7 : Int32)), iv off, rv b204, iv (1 : Int32), iv (1 : Int32), iv (0 : Int32), iv (2 : Int32), iv vt, .unset] [(.int (vt - va)), (.int vt), (.ref b204)])) t → Steps p.tables e below (s₁.setTop (entryFrame m #[(.int p0), (.int p1), (.int p2), (.int p3), (.int p4), (.int p5)] maxLocals)) t := by
        intro t kt
        refine pre242 _ ?_
        show Steps p.tables e below (T214.setTop (mkF m 251 #[iv p0, iv p1, iv p2, iv p3, iv p4, iv p5, iv va, iv vb, iv vc, iv (3 : Int32), iv (p4 &&& (7 : Int32)), iv off, rv b204, iv (1 : Int32), iv (1 : Int32), .unset, .unset, .unset, .unset] [(.int off), (.int vc)])) _
        refine XS.icmpYes X214.here hx rfl (pc0 := 251) (pc' := 258) rfl (hb hby at_251) rfl (flt hc251_241).2.1 (by decide) (by decide) ?_
        refine XS.iconst X214.here hx rfl (hb hby at_258) ?_
        refine XS.istore X214.here hx rfl (hb hby at_259) rfl (l' := #[iv p0, iv p1, iv p2, iv p3, iv p4, iv p5, iv va, iv vb, iv vc, iv (3 : Int32), iv (p4 &&& (7 : Int32)), iv off, rv b204, iv (1 : Int32), iv (1 : Int32), iv (0 : Int32), .unset, .unset, .unset]) rfl ?_
        refine XS.iload X214.here hx rfl (hb hby at_261) rfl ?_
        refine XS.ifNo X214.here hx rfl (hb hby at_263) rfl ((if0 _ _).trans (feq (by decide)).1) ?_
        refine XS.iconst X214.here hx rfl (hb hby at_266) ?_
        refine XS.goto X214.here hx rfl (pc0 := 267) (pc' := 271) rfl (hb hby at_267) (by decide) (by decide) ?_
        refine XS.iload X214.here hx rfl (hb hby at_271) rfl ?_
        show Steps p.tables e below (T214.setTop (mkF m 273 #[iv p0, iv p1, iv p2, iv p3, iv p4, iv p5, iv va, iv vb, iv vc, iv (3 : Int32), iv (p4 &&& (7 : Int32)), iv off, rv b204, iv (1 : Int32), iv (1 : Int32), iv (0 : Int32), .unset, .unset, .unset] [(.int (1 : Int32)), (.int (1 : Int32))])) _
        refine XS.ifNo X214.here hx rfl (hb hby at_273) rfl ((if0 _ _).trans (feq (by decide)).1) ?_
        refine XS.iconst X214.here hx rfl (hb hby at_276) ?_
        refine XS.goto X214.here hx rfl (pc0 := 277) (pc' := 281) rfl (hb hby at_277) (by decide) (by decide) ?_
        refine XS.iadd X214.here hx rfl (hb hby at_281) rfl ?_
        show Steps p.tables e below (T214.setTop (mkF m 282 #[iv p0, iv p1, iv p2, iv p3, iv p4, iv p5, iv va, iv vb, iv vc, iv (3 : Int32), iv (p4 &&& (7 : Int32)), iv off, rv b204, iv (1 : Int32), iv (1 : Int32), iv (0 : Int32), .unset, .unset, .unset] [(.int ((1 : Int32) + (1 : Int32)))])) _
        rw [show ((1 : Int32) + (1 : Int32)) = (2 : Int32) from (by decide)]
        show Steps p.tables e below (T214.setTop (mkF m 282 #[iv p0, iv p1, iv p2, iv p3, iv p4, iv p5, iv va, iv vb, iv vc, iv (3 : Int32), iv (p4 &&& (7 : Int32)), iv off, rv b204, iv (1 : Int32), iv (1 : Int32), iv (0 : Int32), .unset, .unset, .unset] [(.int (2 : Int32))])) _
        refine XS.iload X214.here hx rfl (hb hby at_282) rfl ?_
        refine XS.ifYes X214.here hx rfl (pc0 := 284) (pc' := 291) rfl (hb hby at_284) rfl ((if0 _ _).trans (teq (by decide)).1) (by decide) (by decide) ?_
        refine XS.iconst X214.here hx rfl (hb hby at_291) ?_
        refine XS.iadd X214.here hx rfl (hb hby at_292) rfl ?_
        show Steps p.tables e below (T214.setTop (mkF m 293 #[iv p0, iv p1, iv p2, iv p3, iv p4, iv p5, iv va, iv vb, iv vc, iv (3 : Int32), iv (p4 &&& (7 : Int32)), iv off, rv b204, iv (1 : Int32), iv (1 : Int32), iv (0 : Int32), .unset, .unset, .unset] [(.int ((2 : Int32) + (0 : Int32)))])) _
        rw [show ((2 : Int32) + (0 : Int32)) = (2 : Int32) from (by decide)]
        show Steps p.tables e below (T214.setTop (mkF m 293 #[iv p0, iv p1, iv p2, iv p3, iv p4, iv p5, iv va, iv vb, iv vc, iv (3 : Int32), iv (p4 &&& (7 : Int32)), iv off, rv b204, iv (1 : Int32), iv (1 : Int32), iv (0 : Int32), .unset, .unset, .unset] [(.int (2 : Int32))])) _
        refine XS.istore X214.here hx rfl (hb hby at_293) rfl (l' := #[iv p0, iv p1, iv p2, iv p3, iv p4, iv p5, iv va, iv vb, iv vc, iv (3 : Int32), iv (p4 &&& (7 : Int32)), iv off, rv b204, iv (1 : Int32), iv (1 : Int32), iv (0 : Int32), iv (2 : Int32), .unset, .unset]) rfl ?_
        refine XS.iload X214.here hx rfl (hb hby at_295) rfl ?_
        refine XS.iconst X214.here hx rfl (hb hby at_297) ?_
        refine XS.iadd X214.here hx rfl (hb hby at_298) rfl ?_
        refine XS.istore X214.here hx rfl (hb hby at_299) rfl (l' := #[iv p0, iv p1, iv p2, iv p3, iv p4, iv p5, iv va, iv vb, iv vc, iv (3 : Int32), iv (p4 &&& (7 : Int32)), iv off, rv b204, iv (1 : Int32), iv (1 : Int32), iv (0 : Int32), iv (2 : Int32), iv (vc + (1 : Int32)), .unset]) rfl ?_
        show Steps p.tables e below (T214.setTop (mkF m 301 #[iv p0, iv p1, iv p2, iv p3, iv p4, iv p5, iv va, iv vb, iv vc, iv (3 : Int32), iv (p4 &&& (7 : Int32)), iv off, rv b204, iv (1 : Int32), iv (1 : Int32), iv (0 : Int32), iv (2 : Int32), iv (vc + (1 : Int32)), .unset] [])) _
        rw [← h_vt]
        show Steps p.tables e below (T214.setTop (mkF m 301 #[iv p0, iv p1, iv p2, iv p3, iv p4, iv p5, iv va, iv vb, iv vc, iv (3 : Int32), iv (p4 &&& (7 : Int32)), iv off, rv b204, iv (1 : Int32), iv (1 : Int32), iv (0 : Int32), iv (2 : Int32), iv vt, .unset] [])) _
        refine XS.aload X214.here hx rfl (hb hby at_301) rfl rfl ?_
        refine XS.iload X214.here hx rfl (hb hby at_303) rfl ?_
        refine XS.iload X214.here hx rfl (hb hby at_305) rfl ?_
        refine XS.iload X214.here hx rfl (hb hby at_307) rfl ?_
        refine XS.isub X214.here hx rfl (hb hby at_309) rfl ?_
        exact kt
      obtain ⟨cq244, kq244, q244a, q244b, q244c⟩ := isOf hZ rfl (((((A204.keep Kc206).keep Kc208).keep Kc210).keep Kc212).keep Kc214)
      obtain ⟨_, _, ⟨T244, L244, k244, n244⟩, -, X244, ⟨Lc244, hQ244, l244, y244, z244⟩, st244⟩ := X214.virtualBack hx (y := (⟨"com/example/bytewright/bytewright/grid/ObjectStarts", "indexOf", "(II)I"⟩ : MethodName)) (z := (⟨"com/example/bytewright/bytewright/grid/ObjectStarts", "indexOf", "(II)I"⟩ : MethodName)) hown (mvT hZ (hw _ (List.mem_of_getElem? (i := 25) rfl))) (mvT hZ (hw _ (List.mem_of_getElem? (i := 26) rfl))) (notFace_of_selects (args := #[]) (mvT hZ (hw _ (List.mem_of_getElem? (i := 28) rfl)))) (mvT hZ (hw _ (List.mem_of_getElem? (i := 28) rfl))) (mvT hZ (hw _ (List.mem_of_getElem? (i := 27) rfl))) (by decide) (backOf (W := 0) (rm5c2 l Z a0 hw [] b204 vt (vt - va) ab206 kb206 va vb vc (0 : Int32) va T214.heap n0 (Nat.le_trans Z0 K214.1) Fo214 Fn214 (((((A204.keep Kc206).keep Kc208).keep Kc210).keep Kc212).keep Kc214) Va214 hne206 (own_key vt va (by have := own_next vc vt h_vt (by omega); omega)).1 (own_key vt va (by have := own_next vc vt h_vt (by omega); omega)).2.1 (own_key vt va (by have := own_next vc vt h_vt (by omega); omega)).2.2) hZ (hw _ (List.mem_of_getElem? (i := 29) rfl)) (hw _ (List.mem_of_getElem? (i := 3) rfl)) (by decide) (by decide)) q244a q244c (g := (mkF m 310 #[iv p0, iv p1, iv p2, iv p3, iv p4, iv p5, iv va, iv vb, iv vc, iv (3 : Int32), iv (p4 &&& (7 : Int32)), iv off, rv b204, iv (1 : Int32), iv (1 : Int32), iv (0 : Int32), iv (2 : Int32), iv vt, .unset] [(.int (vt - va)), (.int vt), (.ref b204)])) rfl (by rw [hml]; rfl) (Steps.refl _) (argsL := [(.int vt), (.int (vt - va))]) (rest := []) (lenOf pd7 rfl) rfl (by show 2 * 0 + _ ≤ _; exact Nat.le_of_eq rfl) (hb hby at_310) (fun _ _ => ⟨rfl, rfl, (by decide : 2 + 0 ≤ _), (by decide : 18 + 0 ≤ _)⟩)
      dsimp only [Pt.U, Pt.locs, Pt.cells, Pt.slots] at X244 l244 y244 z244 st244 hQ244
      subst l244 y244 z244
      obtain ⟨rfl, N244q, hh244⟩ := hQ244
      have N244 := Fr.app N214 N244q
      have pre246 : ∀ t, Steps p.tables e below (T244.setTop (mkF m 323 #[iv p0, iv p1, iv p2, iv p3, iv p4, iv p5, iv va, iv vb, iv vc, iv (3 : Int32), iv (p4 &&& (7 : Int32)), iv off, rv b204, iv (1 : Int32), iv (1 : Int32), iv (0 : Int32), iv (2 : Int32), iv vt, .unset] [(.int (0 : Int32)), (.int (own_ix2 va va vb vc (0 : Int32)))])) t → Steps p.tables e below (s₁.setTop (entryFrame m #[(.int p0), (.int p1), (.int p2), (.int p3), (.int p4), (.int p5)] maxLocals)) t := by
        intro t kt
        refine pre243 _ ?_
        show Steps p.tables e below (T214.setTop (mkF m 310 #[iv p0, iv p1, iv p2, iv p3, iv p4, iv p5, iv va, iv vb, iv vc, iv (3 : Int32), iv (p4 &&& (7 : Int32)), iv off, rv b204, iv (1 : Int32), iv (1 : Int32), iv (0 : Int32), iv (2 : Int32), iv vt, .unset] [(.int (vt - va)), (.int vt), (.ref b204)])) _
        refine st244.trans ?_
        show Steps p.tables e below (T244.setTop (mkF m 313 #[iv p0, iv p1, iv p2, iv p3, iv p4, iv p5, iv va, iv vb, iv vc, iv (3 : Int32), iv (p4 &&& (7 : Int32)), iv off, rv b204, iv (1 : Int32), iv (1 : Int32), iv (0 : Int32), iv (2 : Int32), iv vt, .unset] [(.int (own_ix2 va va vb vc (0 : Int32)))])) _
        refine XS.iload X244.here hx rfl (hb hby at_313) rfl ?_
        refine XS.ifNo X244.here hx rfl (hb hby at_315) rfl ((if0 _ _).trans (feq (by decide)).1) ?_
        refine XS.iconst X244.here hx rfl (hb hby at_318) ?_
        refine XS.goto X244.here hx rfl (pc0 := 319) (pc' := 323) rfl (hb hby at_319) (by decide) (by decide) ?_
        exact kt
      have hc323_245 : (own_ix2 va va vb vc (0 : Int32)) = (0 : Int32) := by simp +decide [own_ix2, own_bs2, hab, hbc, hac, nba, ncb, nca, Int32.lt_irrefl]
      have pre247 : ∀ t, Steps p.tables e below (T244.setTop (mkF m 335 #[iv p0, iv p1, iv p2, iv p3, iv p4, iv p5, iv va, iv vb, iv vc, iv (3 : Int32), iv (p4 &&& (7 : Int32)), iv off, rv b204, iv (1 : Int32), iv (1 : Int32), iv (0 : Int32), iv (2 : Int32), iv vt, .unset] [(.int (vt - vb)), (.int vt), (.ref b204)])) t → Steps p.tables e below (s₁.setTop (entryFrame m #[(.int p0), (.int p1), (.int p2), (.int p3), (.int p4), (.int p5)] maxLocals)) t := by
        intro t kt
        refine pre246 _ ?_
        show Steps p.tables e below (T244.setTop (mkF m 323 #[iv p0, iv p1, iv p2, iv p3, iv p4, iv p5, iv va, iv vb, iv vc, iv (3 : Int32), iv (p4 &&& (7 : Int32)), iv off, rv b204, iv (1 : Int32), iv (1 : Int32), iv (0 : Int32), iv (2 : Int32), iv vt, .unset] [(.int (0 : Int32)), (.int (own_ix2 va va vb vc (0 : Int32)))])) _
        refine XS.icmpNo X244.here hx rfl (hb hby at_323) rfl (teq hc323_245).2 ?_
        refine XS.aload X244.here hx rfl (hb hby at_326) rfl rfl ?_
        refine XS.iload X244.here hx rfl (hb hby at_328) rfl ?_
        refine XS.iload X244.here hx rfl (hb hby at_330) rfl ?_
        refine XS.iload X244.here hx rfl (hb hby at_332) rfl ?_
        refine XS.isub X244.here hx rfl (hb hby at_334) rfl ?_
        exact kt
      obtain ⟨cq248, kq248, q248a, q248b, q248c⟩ := isOf hZ hh244 (((((A204.keep Kc206).keep Kc208).keep Kc210).keep Kc212).keep Kc214)
      obtain ⟨_, _, ⟨T248, L248, k248, n248⟩, -, X248, ⟨Lc248, hQ248, l248, y248, z248⟩, st248⟩ := X244.virtualBack hx (y := (⟨"com/example/bytewright/bytewright/grid/ObjectStarts", "indexOf", "(II)I"⟩ : MethodName)) (z := (⟨"com/example/bytewright/bytewright/grid/ObjectStarts", "indexOf", "(II)I"⟩ : MethodName)) hown (mvT hZ (hw _ (List.mem_of_getElem? (i := 25) rfl))) (mvT hZ (hw _ (List.mem_of_getElem? (i := 26) rfl))) (notFace_of_selects (args := #[]) (mvT hZ (hw _ (List.mem_of_getElem? (i := 28) rfl)))) (mvT hZ (hw _ (List.mem_of_getElem? (i := 28) rfl))) (mvT hZ (hw _ (List.mem_of_getElem? (i := 27) rfl))) (by decide) (backOf (W := 0) (rm5c2 l Z a0 hw [] b204 vt (vt - vb) ab206 kb206 va vb vc (0 : Int32) vb T214.heap n0 (Nat.le_trans Z0 K214.1) Fo214 Fn214 (((((A204.keep Kc206).keep Kc208).keep Kc210).keep Kc212).keep Kc214) Va214 hne206 (own_key vt vb (by have := own_next vc vt h_vt (by omega); omega)).1 (own_key vt vb (by have := own_next vc vt h_vt (by omega); omega)).2.1 (own_key vt vb (by have := own_next vc vt h_vt (by omega); omega)).2.2) hZ (hw _ (List.mem_of_getElem? (i := 29) rfl)) (hw _ (List.mem_of_getElem? (i := 3) rfl)) (by decide) (by decide)) q248a q248c (g := (mkF m 335 #[iv p0, iv p1, iv p2, iv p3, iv p4, iv p5, iv va, iv vb, iv vc, iv (3 : Int32), iv (p4 &&& (7 : Int32)), iv off, rv b204, iv (1 : Int32), iv (1 : Int32), iv (0 : Int32), iv (2 : Int32), iv vt, .unset] [(.int (vt - vb)), (.int vt), (.ref b204)])) rfl (by rw [hml]; rfl) (Steps.refl _) (argsL := [(.int vt), (.int (vt - vb))]) (rest := []) (lenOf pd7 rfl) rfl (by show 2 * 0 + _ ≤ _; exact Nat.le_of_eq rfl) (hb hby at_335) (fun _ _ => ⟨rfl, hh244, (by decide : 2 + 0 ≤ _), (by decide : 18 + 0 ≤ _)⟩)
      dsimp only [Pt.U, Pt.locs, Pt.cells, Pt.slots] at X248 l248 y248 z248 st248 hQ248
      subst l248 y248 z248
      obtain ⟨rfl, N248q, hh248⟩ := hQ248
      have N248 := Fr.app N244 N248q
      have pre250 : ∀ t, Steps p.tables e below (T248.setTop (mkF m 348 #[iv p0, iv p1, iv p2, iv p3, iv p4, iv p5, iv va, iv vb, iv vc, iv (3 : Int32), iv (p4 &&& (7 : Int32)), iv off, rv b204, iv (1 : Int32), iv (1 : Int32), iv (0 : Int32), iv (2 : Int32), iv vt, .unset] [(.int (1 : Int32)), (.int (own_ix2 vb va vb vc (0 : Int32)))])) t → Steps p.tables e below (s₁.setTop (entryFrame m #[(.int p0), (.int p1), (.int p2), (.int p3), (.int p4), (.int p5)] maxLocals)) t := by
        intro t kt
        refine pre247 _ ?_
        show Steps p.tables e below (T244.setTop (mkF m 335 #[iv p0, iv p1, iv p2, iv p3, iv p4, iv p5, iv va, iv vb, iv vc, iv (3 : Int32), iv (p4 &&& (7 : Int32)), iv off, rv b204, iv (1 : Int32), iv (1 : Int32), iv (0 : Int32), iv (2 : Int32), iv vt, .unset] [(.int (vt - vb)), (.int vt), (.ref b204)])) _
        refine st248.trans ?_
        show Steps p.tables e below (T248.setTop (mkF m 338 #[iv p0, iv p1, iv p2, iv p3, iv p4, iv p5, iv va, iv vb, iv vc, iv (3 : Int32), iv (p4 &&& (7 : Int32)), iv off, rv b204, iv (1 : Int32), iv (1 : Int32), iv (0 : Int32), iv (2 : Int32), iv vt, .unset] [(.int (own_ix2 vb va vb vc (0 : Int32)))])) _
        refine XS.iload X248.here hx rfl (hb hby at_338) rfl ?_
        refine XS.ifNo X248.here hx rfl (hb hby at_340) rfl ((if0 _ _).trans (feq (by decide)).1) ?_
        refine XS.iconst X248.here hx rfl (hb hby at_343) ?_
        refine XS.goto X248.here hx rfl (pc0 := 344) (pc' := 348) rfl (hb hby at_344) (by decide) (by decide) ?_
        exact kt
      have hc348_249 : (own_ix2 vb va vb vc (0 : Int32)) = (1 : Int32) := by simp +decide [own_ix2, own_bs2, hab, hbc, hac, nba, ncb, nca, Int32.lt_irrefl]
      have pre251 : ∀ t, Steps p.tables e below (T248.setTop (mkF m 360 #[iv p0, iv p1, iv p2, iv p3, iv p4, iv p5, iv va, iv vb, iv vc, iv (3 : Int32), iv (p4 &&& (7 : Int32)), iv off, rv b204, iv (1 : Int32), iv (1 : Int32), iv (0 : Int32), iv (2 : Int32), iv vt, .unset] [(.int (vt - vc)), (.int vt), (.ref b204)])) t → Steps p.tables e below (s₁.setTop (entryFrame m #[(.int p0), (.int p1), (.int p2), (.int p3), (.int p4), (.int p5)] maxLocals)) t := by
        intro t kt
        refine pre250 _ ?_
        show Steps p.tables e below (T248.setTop (mkF m 348 #[iv p0, iv p1, iv p2, iv p3, iv p4, iv p5, iv va, iv vb, iv vc, iv (3 : Int32), iv (p4 &&& (7 : Int32)), iv off, rv b204, iv (1 : Int32), iv (1 : Int32), iv (0 : Int32), iv (2 : Int32), iv vt, .unset] [(.int (1 : Int32)), (.int (own_ix2 vb va vb vc (0 : Int32)))])) _
        refine XS.icmpNo X248.here hx rfl (hb hby at_348) rfl (teq hc348_249).2 ?_
        refine XS.aload X248.here hx rfl (hb hby at_351) rfl rfl ?_
        refine XS.iload X248.here hx rfl (hb hby at_353) rfl ?_
        refine XS.iload X248.here hx rfl (hb hby at_355) rfl ?_
        refine XS.iload X248.here hx rfl (hb hby at_357) rfl ?_
        refine XS.isub X248.here hx rfl (hb hby at_359) rfl ?_
        exact kt
      obtain ⟨cq252, kq252, q252a, q252b, q252c⟩ := isOf hZ hh248 (((((A204.keep Kc206).keep Kc208).keep Kc210).keep Kc212).keep Kc214)
      obtain ⟨_, _, ⟨T252, L252, k252, n252⟩, -, X252, ⟨Lc252, hQ252, l252, y252, z252⟩, st252⟩ := X248.virtualBack hx (y := (⟨"com/example/bytewright/bytewright/grid/ObjectStarts", "indexOf", "(II)I"⟩ : MethodName)) (z := (⟨"com/example/bytewright/bytewright/grid/ObjectStarts", "indexOf", "(II)I"⟩ : MethodName)) hown (mvT hZ (hw _ (List.mem_of_getElem? (i := 25) rfl))) (mvT hZ (hw _ (List.mem_of_getElem? (i := 26) rfl))) (notFace_of_selects (args := #[]) (mvT hZ (hw _ (List.mem_of_getElem? (i := 28) rfl)))) (mvT hZ (hw _ (List.mem_of_getElem? (i := 28) rfl))) (mvT hZ (hw _ (List.mem_of_getElem? (i := 27) rfl))) (by decide) (backOf (W := 0) (rm5c2 l Z a0 hw [] b204 vt (vt - vc) ab206 kb206 va vb vc (0 : Int32) vc T214.heap n0 (Nat.le_trans Z0 K214.1) Fo214 Fn214 (((((A204.keep Kc206).keep Kc208).keep Kc210).keep Kc212).keep Kc214) Va214 hne206 (own_key vt vc (by have := own_next vc vt h_vt (by omega); omega)).1 (own_key vt vc (by have := own_next vc vt h_vt (by omega); omega)).2.1 (own_key vt vc (by have := own_next vc vt h_vt (by omega); omega)).2.2) hZ (hw _ (List.mem_of_getElem? (i := 29) rfl)) (hw _ (List.mem_of_getElem? (i := 3) rfl)) (by decide) (by decide)) q252a q252c (g := (mkF m 360 #[iv p0, iv p1, iv p2, iv p3, iv p4, iv p5, iv va, iv vb, iv vc, iv (3 : Int32), iv (p4 &&& (7 : Int32)), iv off, rv b204, iv (1 : Int32), iv (1 : Int32), iv (0 : Int32), iv (2 : Int32), iv vt, .unset] [(.int (vt - vc)), (.int vt), (.ref b204)])) rfl (by rw [hml]; rfl) (Steps.refl _) (argsL := [(.int vt), (.int (vt - vc))]) (rest := []) (lenOf pd7 rfl) rfl (by show 2 * 0 + _ ≤ _; exact Nat.le_of_eq rfl) (hb hby at_360) (fun _ _ => ⟨rfl, hh248, (by decide : 2 + 0 ≤ _), (by decide : 18 + 0 ≤ _)⟩)
      dsimp only [Pt.U, Pt.locs, Pt.cells, Pt.slots] at X252 l252 y252 z252 st252 hQ252
      subst l252 y252 z252
      obtain ⟨rfl, N252q, hh252⟩ := hQ252
      have N252 := Fr.app N248 N252q
      have pre254 : ∀ t, Steps p.tables e below (T252.setTop (mkF m 373 #[iv p0, iv p1, iv p2, iv p3, iv p4, iv p5, iv va, iv vb, iv vc, iv (3 : Int32), iv (p4 &&& (7 : Int32)), iv off, rv b204, iv (1 : Int32), iv (1 : Int32), iv (0 : Int32), iv (2 : Int32), iv vt, .unset] [(.int (-1 : Int32)), (.int (own_ix2 vc va vb vc (0 : Int32)))])) t → Steps p.tables e below (s₁.setTop (entryFrame m #[(.int p0), (.int p1), (.int p2), (.int p3), (.int p4), (.int p5)] maxLocals)) t := by
        intro t kt
        refine pre251 _ ?_
        show Steps p.tables e below (T248.setTop (mkF m 360 #[iv p0, iv p1, iv p2, iv p3, iv p4, iv p5, iv va, iv vb, iv vc, iv (3 : Int32), iv (p4 &&& (7 : Int32)), iv off, rv b204, iv (1 : Int32), iv (1 : Int32), iv (0 : Int32), iv (2 : Int32), iv vt, .unset] [(.int (vt - vc)), (.int vt), (.ref b204)])) _
        refine st252.trans ?_
        show Steps p.tables e below (T252.setTop (mkF m 363 #[iv p0, iv p1, iv p2, iv p3, iv p4, iv p5, iv va, iv vb, iv vc, iv (3 : Int32), iv (p4 &&& (7 : Int32)), iv off, rv b204, iv (1 : Int32), iv (1 : Int32), iv (0 : Int32), iv (2 : Int32), iv vt, .unset] [(.int (own_ix2 vc va vb vc (0 : Int32)))])) _
        refine XS.iload X252.here hx rfl (hb hby at_363) rfl ?_
        refine XS.ifYes X252.here hx rfl (pc0 := 365) (pc' := 372) rfl (hb hby at_365) rfl ((if0 _ _).trans (teq (by decide)).1) (by decide) (by decide) ?_
        refine XS.iconst X252.here hx rfl (hb hby at_372) ?_
        exact kt
      have hc373_253 : (own_ix2 vc va vb vc (0 : Int32)) = (-1 : Int32) := by simp +decide [own_ix2, own_bs2, hab, hbc, hac, nba, ncb, nca, Int32.lt_irrefl]
      have pre255 : ∀ t, Steps p.tables e below (T252.setTop (mkF m 392 #[iv p0, iv p1, iv p2, iv p3, iv p4, iv p5, iv va, iv vb, iv vc, iv (3 : Int32), iv (p4 &&& (7 : Int32)), iv off, rv b204, iv (1 : Int32), iv (1 : Int32), iv (0 : Int32), iv (2 : Int32), iv vt, iv (1 : Int32)] [(.int vt), (.ref b204)])) t → Steps p.tables e below (s₁.setTop (entryFrame m #[(.int p0), (.int p1), (.int p2), (.int p3), (.int p4), (.int p5)] maxLocals)) t := by
        intro t kt
        refine pre254 _ ?_
        show Steps p.tables e below (T252.setTop (mkF m 373 #[iv p0, iv p1, iv p2, iv p3, iv p4, iv p5, iv va, iv vb, iv vc, iv (3 : Int32), iv (p4 &&& (7 : Int32)), iv off, rv b204, iv (1 : Int32), iv (1 : Int32), iv (0 : Int32), iv (2 : Int32), iv vt, .unset] [(.int (-1 : Int32)), (.int (own_ix2 vc va vb vc (0 : Int32)))])) _
        refine XS.icmpNo X252.here hx rfl (hb hby at_373) rfl (teq hc373_253).2 ?_
        refine XS.iconst X252.here hx rfl (hb hby at_376) ?_
        refine XS.goto X252.here hx rfl (pc0 := 377) (pc' := 381) rfl (hb hby at_377) (by decide) (by decide) ?_
        refine XS.istore X252.here hx rfl (hb hby at_381) rfl (l' := #[iv p0, iv p1, iv p2, iv p3, iv p4, iv p5, iv va, iv vb, iv vc, iv (3 : Int32), iv (p4 &&& (7 : Int32)), iv off, rv b204, iv (1 : Int32), iv (1 : Int32), iv (0 : Int32), iv (2 : Int32), iv vt, iv (1 : Int32)]) rfl ?_
        refine XS.iload X252.here hx rfl (hb hby at_383) rfl ?_
        refine XS.ifNo X252.here hx rfl (hb hby at_385) rfl ((if0 _ _).trans (feq (by decide)).1) ?_
        refine XS.aload X252.here hx rfl (hb hby at_388) rfl rfl ?_
        refine XS.iload X252.here hx rfl (hb hby at_390) rfl ?_
        exact kt
      obtain ⟨cq256, kq256, q256a, q256b, q256c⟩ := isOf hZ hh252 (((((A204.keep Kc206).keep Kc208).keep Kc210).keep Kc212).keep Kc214)
      obtain ⟨_, _, ⟨T256, L256, k256, n256⟩, -, X256, ⟨Lc256, hQ256, l256, y256, z256⟩, st256⟩ := X252.virtualBack hx (y := (⟨"com/example/bytewright/bytewright/grid/ObjectStarts", "add", "(I)I"⟩ : MethodName)) (z := (⟨"com/example/bytewright/bytewright/grid/ObjectStarts", "add", "(I)I"⟩ : MethodName)) hown (mvT hZ (hw _ (List.mem_of_getElem? (i := 13) rfl))) (mvT hZ (hw _ (List.mem_of_getElem? (i := 14) rfl))) (notFace_of_selects (args := #[]) (mvT hZ (hw _ (List.mem_of_getElem? (i := 16) rfl)))) (mvT hZ (hw _ (List.mem_of_getElem? (i := 16) rfl))) (mvT hZ (hw _ (List.mem_of_getElem? (i := 15) rfl))) (by decide) (backOf (W := 0) (rm3c2 l Z a0 hw [] b204 vt ab206 kb206 va vb vc (0 : Int32) T214.heap n0 (Nat.le_trans Z0 K214.1) Fo214 Fn214 (((((A204.keep Kc206).keep Kc208).keep Kc210).keep Kc212).keep Kc214) g_b204 Va214 g_ab206 hne206 (Int32.lt_iff_toInt_lt.mpr (by omega))) hZ (hw _ (List.mem_of_getElem? (i := 17) rfl)) (hw _ (List.mem_of_getElem? (i := 3) rfl)) (by decide) (by decide)) q256a q256c (g := (mkF m 392 #[iv p0, iv p1, iv p2, iv p3, iv p4, iv p5, iv va, iv vb, iv vc, iv (3 : Int32), iv (p4 &&& (7 : Int32)), iv off, rv b204, iv (1 : Int32), iv (1 : Int32), iv (0 : Int32), iv (2 : Int32), iv vt, iv (1 : Int32)] [(.int vt), (.ref b204)])) rfl (by rw [hml]; rfl) (Steps.refl _) (argsL := [(.int vt)]) (rest := []) (lenOf pd8 rfl) rfl (by show 2 * 0 + _ ≤ _; exact Nat.le_of_eq rfl) (hb hby at_392) (fun _ _ => ⟨rfl, hh252, (by decide : 2 + 0 ≤ _), (by decide : 18 + 0 ≤ _)⟩)
      dsimp only [Pt.U, Pt.locs, Pt.cells, Pt.slots] at X256 l256 y256 z256 st256 hQ256
      subst l256 y256 z256
      obtain ⟨rfl, N256q, Kc256, Fo256, Fn256, Va256⟩ := hQ256
      have N256 := Fr.app N252 N256q
      have K256 : Keep h0 T256.heap [] := K214.trans Kc256 (allS (Or.inr sz_b204) (allS (Or.inr sz_ab206) all0))
      have pre257 : ∀ t, Steps p.tables e below (T256.setTop (mkF m 405 #[iv p0, iv p1, iv p2, iv p3, iv p4, iv p5, iv va, iv vb, iv vc, iv (3 : Int32), iv (p4 &&& (7 : Int32)), iv off, rv b204, iv (1 : Int32), iv (1 : Int32), iv (0 : Int32), iv (2 : Int32), iv vt, iv (1 : Int32)] [(.int (1 : Int32))])) t → Steps p.tables e below (s₁.setTop (entryFrame m #[(.int p0), (.int p1), (.int p2), (.int p3), (.int p4), (.int p5)] maxLocals)) t := by
        intro t kt
        refine pre255 _ ?_
        show Steps p.tables e below (T252.setTop (mkF m 392 #[iv p0, iv p1, iv p2, iv p3, iv p4, iv p5, iv va, iv vb, iv vc, iv (3 : Int32), iv (p4 &&& (7 : Int32)), iv off, rv b204, iv (1 : Int32), iv (1 : Int32), iv (0 : Int32), iv (2 : Int32), iv vt, iv (1 : Int32)] [(.int vt), (.ref b204)])) _
        refine st256.trans ?_
        show Steps p.tables e below (T256.setTop (mkF m 395 #[iv p0, iv p1, iv p2, iv p3, iv p4, iv p5, iv va, iv vb, iv vc, iv (3 : Int32), iv (p4 &&& (7 : Int32)), iv off, rv b204, iv (1 : Int32), iv (1 : Int32), iv (0 : Int32), iv (2 : Int32), iv vt, iv (1 : Int32)] [(.int (2 : Int32))])) _
        refine XS.iload X256.here hx rfl (hb hby at_395) rfl ?_
        refine XS.icmpNo X256.here hx rfl (hb hby at_397) rfl (teq (by decide)).2 ?_
        refine XS.iconst X256.here hx rfl (hb hby at_400) ?_
        refine XS.goto X256.here hx rfl (pc0 := 401) (pc' := 405) rfl (hb hby at_401) (by decide) (by decide) ?_
        exact kt
      obtain ⟨fs, hr, hrun, hended, hW, hsame⟩ := X256.leave (v := some (.int (1 : Int32))) (fun h => by rw [Bd.returns] at h; cases h)
      refine ⟨_, _, pre257 _ ?_, hrun, hended, _, _, rfl, ?_, ⟨_, rfl⟩, hW, hsame.mono (by decide) (by decide)⟩
      · show Steps p.tables e below (T256.setTop (mkF m 405 #[iv p0, iv p1, iv p2, iv p3, iv p4, iv p5, iv va, iv vb, iv vc, iv (3 : Int32), iv (p4 &&& (7 : Int32)), iv off, rv b204, iv (1 : Int32), iv (1 : Int32), iv (0 : Int32), iv (2 : Int32), iv vt, iv (1 : Int32)] [(.int (1 : Int32))])) _
        exact retN X256 hx (t := .boolean) Bd.returns (by simp) (hb hby at_405) hr
      · show Q0 Z p0 p1 p2 p3 p4 p5 h0 n0 _ T256.heap _
        exact ⟨rfl, N256⟩
    · have hkk := Nat.le_refl 0
      rw [Int32.lt_iff_toInt_lt] at t2
      rw [Int32.lt_iff_toInt_lt] at t1
      rw [Int32.lt_iff_toInt_lt] at t0
      have pre259 : ∀ t, Steps p.tables e below (T214.setTop (mkF m 211 #[iv p0, iv p1, iv p2, iv p3, iv p4, iv p5, iv va, iv vb, iv vc, iv (3 : Int32), iv (p4 &&& (7 : Int32)), iv off, rv b204, .unset, .unset, .unset, .unset, .unset, .unset] [(.int off), (.int va)])) t → Steps p.tables e below (s₁.setTop (entryFrame m #[(.int p0), (.int p1), (.int p2), (.int p3), (.int p4), (.int p5)] maxLocals)) t := by
        intro t kt
        refine pre215 _ ?_
        show Steps p.tables e below (T214.setTop (mkF m 201 #[iv p0, iv p1, iv p2, iv p3, iv p4, iv p5, iv va, iv vb, iv vc, iv (3 : Int32), iv (p4 &&& (7 : Int32)), iv off, rv b204, .unset, .unset, .unset, .unset, .unset, .unset] [])) _
        refine XS.iload X214.here hx rfl (hb hby at_201) rfl ?_
        refine XS.iconst X214.here hx rfl (hb hby at_203) ?_
        refine XS.icmpNo X214.here hx rfl (hb hby at_204) rfl (flt (by decide)).1 ?_
        refine XS.iload X214.here hx rfl (hb hby at_207) rfl ?_
        refine XS.iload X214.here hx rfl (hb hby at_209) rfl ?_
        exact kt
      have hc211_258 : va < off := by rw [Int32.lt_iff_toInt_lt]; omega
      have pre261 : ∀ t, Steps p.tables e below (T214.setTop (mkF m 231 #[iv p0, iv p1, iv p2, iv p3, iv p4, iv p5, iv va, iv vb, iv vc, iv (3 : Int32), iv (p4 &&& (7 : Int32)), iv off, rv b204, iv (1 : Int32), .unset, .unset, .unset, .unset, .unset] [(.int off), (.int vb)])) t → Steps p.tables e below (s₁.setTop (entryFrame m #[(.int p0), (.int p1), (.int p2), (.int p3), (.int p4), (.int p5)] maxLocals)) t := by
        intro t kt
        refine pre259 _ ?_
        show Steps p.tables e below (T214.setTop (mkF m 211 #[iv p0, iv p1, iv p2, iv p3, iv p4, iv p5, iv va, iv vb, iv vc, iv (3 : Int32), iv (p4 &&& (7 : Int32)), iv off, rv b204, .unset, .unset, .unset, .unset, .unset, .unset] [(.int off), (.int va)])) _
        refine XS.icmpNo X214.here hx rfl (hb hby at_211) rfl (tlt hc211_258).2.1 ?_
        refine XS.iconst X214.here hx rfl (hb hby at_214) ?_
        refine XS.goto X214.here hx rfl (pc0 := 215) (pc' := 219) rfl (hb hby at_215) (by decide) (by decide) ?_
        refine XS.istore X214.here hx rfl (hb hby at_219) rfl (l' := #[iv p0, iv p1, iv p2, iv p3, iv p4, iv p5, iv va, iv vb, iv vc, iv (3 : Int32), iv (p4 &&& (7 : Int32)), iv off, rv b204, iv (1 : Int32), .unset, .unset, .unset, .unset, .unset]) rfl ?_
        refine XS.iload X214.here hx rfl (hb hby at_221) rfl ?_
        refine XS.iconst X214.here hx rfl (hb hby at_223) ?_
        refine XS.icmpNo X214.here hx rfl (hb hby at_224) rfl (flt (by decide)).1 ?_
        refine XS.iload X214.here hx rfl (hb hby at_227) rfl ?_
        show Steps p.tables e below (T214.setTop (mkF m 229 #[iv p0, iv p1, iv p2, iv p3, iv p4, iv p5, iv va, iv vb, iv vc, iv (3 : Int32), iv (p4 &&& (7 : Int32)), iv off, rv b204, iv (1 : Int32), .unset, .unset, .unset, .unset, .unset] [(.int vb)])) _
        refine XS.iload X214.here hx rfl (hb hby at_229) rfl ?_
        exact kt
      have hc231_260 : ¬ (vb < off) := by rw [Int32.lt_iff_toInt_lt]; omega
      have pre263 : ∀ t, Steps p.tables e below (T214.setTop (mkF m 251 #[iv p0, iv p1, iv p2, iv p3, iv p4, iv p5, iv va, iv vb, iv vc, iv (3 : Int32), iv (p4 &&& (7 : Int32)), iv off, rv b204, iv (1 : Int32), iv (0 : Int32), .unset, .unset, .unset, .unset] [(.int off), (.int vc)])) t → Steps p.tables e below (s₁.setTop (entryFrame m #[(.int p0), (.int p1), (.int p2), (.int p3), (.int p4), (.int p5)] maxLocals)) t := by
        intro t kt
        refine pre261 _ ?_
        show Steps p.tables e below (T214.setTop (mkF m 231 #[iv p0, iv p1, iv p2, iv p3, iv p4, iv p5, iv va, iv vb, iv vc, iv (3 : Int32), iv (p4 &&& (7 : Int32)), iv off, rv b204, iv (1 : Int32), .unset, .unset, .unset, .unset, .unset] [(.int off), (.int vb)])) _
        refine XS.icmpYes X214.here hx rfl (pc0 := 231) (pc' := 238) rfl (hb hby at_231) rfl (flt hc231_260).2.1 (by decide) (by decide) ?_
        refine XS.iconst X214.here hx rfl (hb hby at_238) ?_
        refine XS.istore X214.here hx rfl (hb hby at_239) rfl (l' := #[iv p0, iv p1, iv p2, iv p3, iv p4, iv p5, iv va, iv vb, iv vc, iv (3 : Int32), iv (p4 &&& (7 : Int32)), iv off, rv b204, iv (1 : Int32), iv (0 : Int32), .unset, .unset, .unset, .unset]) rfl ?_
        refine XS.iload X214.here hx rfl (hb hby at_241) rfl ?_
        refine XS.iconst X214.here hx rfl (hb hby at_243) ?_
        refine XS.icmpNo X214.here hx rfl (hb hby at_244) rfl (flt (by decide)).1 ?_
        refine XS.iload X214.here hx rfl (hb hby at_247) rfl ?_
        refine XS.iload X214.here hx rfl (hb hby at_249) rfl ?_
        exact kt
      have hc251_262 : ¬ (vc < off) := by rw [Int32.lt_iff_toInt_lt]; omega
      obtain ⟨vt, h_vt⟩ : ∃ z : Int32, z = (vc + (1 : Int32)) := ⟨_, rfl⟩
      have hvt := own_next vc vt h_vt (by omega)
      have pre264 : ∀ t, Steps p.tables e below (T214.setTop (mkF m 310 #[iv p0, iv p1, iv p2, iv p3, iv p4, iv p5, iv va, iv vb, iv vc, iv (3 : Int32), iv (p4 &&& (7 : Int32)), iv off, rv b204, iv (1 : Int32), iv (0 : Int32), iv (0 : Int32), iv (1 : Int32), iv vt, .unset] [(.int (vt - va)), (.int vt), (.ref b204)])) t → Steps p.tables e below (s₁.setTop (entryFrame m #[(.int p0), (.int p1), (.int p2), (.int p3), (.int p4), (.int p5)] maxLocals)) t := by
        intro t kt
        refine pre263 _ ?_
        show Steps p.tables e below (T214.setTop (mkF m 251 #[iv p0, iv p1, iv p2, iv p3, iv p4, iv p5, iv va, iv vb, iv vc, iv (3 : Int32), iv (p4 &&& (7 : Int32)), iv off, rv b204, iv (1 : Int32), iv (0 : Int32), .unset, .unset, .unset, .unset] [(.int off), (.int vc)])) _
        refine XS.icmpYes X214.here hx rfl (pc0 := 251) (pc' := 258) rfl (hb hby at_251) rfl (flt hc251_262).2.1 (by decide) (by decide) ?_
        refine XS.iconst X214.here hx rfl (hb hby at_258) ?_
        refine XS.istore X214.here hx rfl (hb hby at_259) rfl (l' := #[iv p0, iv p1, iv p2, iv p3, iv p4, iv p5, iv va, iv vb, iv vc, iv (3 : Int32), iv (p4 &&& (7 : Int32)), iv off, rv b204, iv (1 : Int32), iv (0 : Int32), iv (0 : Int32), .unset, .unset, .unset]) rfl ?_
        refine XS.iload X214.here hx rfl (hb hby at_261) rfl ?_
        refine XS.ifNo X214.here hx rfl (hb hby at_263) rfl ((if0 _ _).trans (feq (by decide)).1) ?_
        refine XS.iconst X214.here hx rfl (hb hby at_266) ?_
        refine XS.goto X214.here hx rfl (pc0 := 267) (pc' := 271) rfl (hb hby at_267) (by decide) (by decide) ?_
        refine XS.iload X214.here hx rfl (hb hby at_271) rfl ?_
        show Steps p.tables e below (T214.setTop (mkF m 273 #[iv p0, iv p1, iv p2, iv p3, iv p4, iv p5, iv va, iv vb, iv vc, iv (3 : Int32), iv (p4 &&& (7 : Int32)), iv off, rv b204, iv (1 : Int32), iv (0 : Int32), iv (0 : Int32), .unset, .unset, .unset] [(.int (0 : Int32)), (.int (1 : Int32))])) _
        refine XS.ifYes X214.here hx rfl (pc0 := 273) (pc' := 280) rfl (hb hby at_273) rfl ((if0 _ _).trans (teq (by decide)).1) (by decide) (by decide) ?_
        refine XS.iconst X214.here hx rfl (hb hby at_280) ?_
        refine XS.iadd X214.here hx rfl (hb hby at_281) rfl ?_
        show Steps p.tables e below (T214.setTop (mkF m 282 #[iv p0, iv p1, iv p2, iv p3, iv p4, iv p5, iv va, iv vb, iv vc, iv (3 : Int32), iv (p4 &&& (7 : Int32)), iv off, rv b204, iv (1 : Int32), iv (0 : Int32), iv (0 : Int32), .unset, .unset, .unset] [(.int ((1 : Int32) + (0 : Int32)))])) _
        rw [show ((1 : Int32) + (0 : Int32)) = (1 : Int32) from (by decide)]
        show Steps p.tables e below (T214.setTop (mkF m 282 #[iv p0, iv p1, iv p2, iv p3, iv p4, iv p5, iv va, iv vb, iv vc, iv (3 : Int32), iv (p4 &&& (7 : Int32)), iv off, rv b204, iv (1 : Int32), iv (0 : Int32), iv (0 : Int32), .unset, .unset, .unset] [(.int (1 : Int32))])) _
        refine XS.iload X214.here hx rfl (hb hby at_282) rfl ?_
        refine XS.ifYes X214.here hx rfl (pc0 := 284) (pc' := 291) rfl (hb hby at_284) rfl ((if0 _ _).trans (teq (by decide)).1) (by decide) (by decide) ?_
        refine XS.iconst X214.here hx rfl (hb hby at_291) ?_
        refine XS.iadd X214.here hx rfl (hb hby at_292) rfl ?_
        show Steps p.tables e below (T214.setTop (mkF m 293 #[iv p0, iv p1, iv p2, iv p3, iv p4, iv p5, iv va, iv vb, iv vc, iv (3 : Int32), iv (p4 &&& (7 : Int32)), iv off, rv b204, iv (1 : Int32), iv (0 : Int32), iv (0 : Int32), .unset, .unset, .unset] [(.int ((1 : Int32) + (0 : Int32)))])) _
        rw [show ((1 : Int32) + (0 : Int32)) = (1 : Int32) from (by decide)]
        show Steps p.tables e below (T214.setTop (mkF m 293 #[iv p0, iv p1, iv p2, iv p3, iv p4, iv p5, iv va, iv vb, iv vc, iv (3 : Int32), iv (p4 &&& (7 : Int32)), iv off, rv b204, iv (1 : Int32), iv (0 : Int32), iv (0 : Int32), .unset, .unset, .unset] [(.int (1 : Int32))])) _
        refine XS.istore X214.here hx rfl (hb hby at_293) rfl (l' := #[iv p0, iv p1, iv p2, iv p3, iv p4, iv p5, iv va, iv vb, iv vc, iv (3 : Int32), iv (p4 &&& (7 : Int32)), iv off, rv b204, iv (1 : Int32), iv (0 : Int32), iv (0 : Int32), iv (1 : Int32), .unset, .unset]) rfl ?_
        refine XS.iload X214.here hx rfl (hb hby at_295) rfl ?_
        refine XS.iconst X214.here hx rfl (hb hby at_297) ?_
        refine XS.iadd X214.here hx rfl (hb hby at_298) rfl ?_
        refine XS.istore X214.here hx rfl (hb hby at_299) rfl (l' := #[iv p0, iv p1, iv p2, iv p3, iv p4, iv p5, iv va, iv vb, iv vc, iv (3 : Int32), iv (p4 &&& (7 : Int32)), iv off, rv b204, iv (1 : Int32), iv (0 : Int32), iv (0 : Int32), iv (1 : Int32), iv (vc + (1 : Int32)), .unset]) rfl ?_
        show Steps p.tables e below (T214.setTop (mkF m 301 #[iv p0, iv p1, iv p2, iv p3, iv p4, iv p5, iv va, iv vb, iv vc, iv (3 : Int32), iv (p4 &&& (7 : Int32)), iv off, rv b204, iv (1 : Int32), iv (0 : Int32), iv (0 : Int32), iv (1 : Int32), iv (vc + (1 : Int32)), .unset] [])) _
        rw [← h_vt]
        show Steps p.tables e below (T214.setTop (mkF m 301 #[iv p0, iv p1, iv p2, iv p3, iv p4, iv p5, iv va, iv vb, iv vc, iv (3 : Int32), iv (p4 &&& (7 : Int32)), iv off, rv b204, iv (1 : Int32), iv (0 : Int32), iv (0 : Int32), iv (1 : Int32), iv vt, .unset] [])) _
        refine XS.aload X214.here hx rfl (hb hby at_301) rfl rfl ?_
        refine XS.iload X214.here hx rfl (hb hby at_303) rfl ?_
        refine XS.iload X214.here hx rfl (hb hby at_305) rfl ?_
        refine XS.iload X214.here hx rfl (hb hby at_307) rfl ?_
        refine XS.isub X214.here hx rfl (hb hby at_309) rfl ?_
        exact kt
      obtain ⟨cq265, kq265, q265a, q265b, q265c⟩ := isOf hZ rfl (((((A204.keep Kc206).keep Kc208).keep Kc210).keep Kc212).keep Kc214)
      obtain ⟨_, _, ⟨T265, L265, k265, n265⟩, -, X265, ⟨Lc265, hQ265, l265, y265, z265⟩, st265⟩ := X214.virtualBack hx (y := (⟨"com/example/bytewright/bytewright/grid/ObjectStarts", "indexOf", "(II)I"⟩ : MethodName)) (z := (⟨"com/example/bytewright/bytewright/grid/ObjectStarts", "indexOf", "(II)I"⟩ : MethodName)) hown (mvT hZ (hw _ (List.mem_of_getElem? (i := 25) rfl))) (mvT hZ (hw _ (List.mem_of_getElem? (i := 26) rfl))) (notFace_of_selects (args := #[]) (mvT hZ (hw _ (List.mem_of_getElem? (i := 28) rfl)))) (mvT hZ (hw _ (List.mem_of_getElem? (i := 28) rfl))) (mvT hZ (hw _ (List.mem_of_getElem? (i := 27) rfl))) (by decide) (backOf (W := 0) (rm5c1 l Z a0 hw [] b204 vt (vt - va) ab206 kb206 va vb vc (0 : Int32) va T214.heap n0 (Nat.le_trans Z0 K214.1) Fo214 Fn214 (((((A204.keep Kc206).keep Kc208).keep Kc210).keep Kc212).keep Kc214) Va214 hne206 (own_key vt va (by have := own_next vc vt h_vt (by omega); omega)).1 (own_key vt va (by have := own_next vc vt h_vt (by omega); omega)).2.1 (own_key vt va (by have := own_next vc vt h_vt (by omega); omega)).2.2) hZ (hw _ (List.mem_of_getElem? (i := 29) rfl)) (hw _ (List.mem_of_getElem? (i := 3) rfl)) (by decide) (by decide)) q265a q265c (g := (mkF m 310 #[iv p0, iv p1, iv p2, iv p3, iv p4, iv p5, iv va, iv vb, iv vc, iv (3 : Int32), iv (p4 &&& (7 : Int32)), iv off, rv b204, iv (1 : Int32), iv (0 : Int32), iv (0 : Int32), iv (1 : Int32), iv vt, .unset] [(.int (vt - va)), (.int vt), (.ref b204)])) rfl (by rw [hml]; rfl) (Steps.refl _) (argsL := [(.int vt), (.int (vt - va))]) (rest := []) (lenOf pd7 rfl) rfl (by show 2 * 0 + _ ≤ _; exact Nat.le_of_eq rfl) (hb hby at_310) (fun _ _ => ⟨rfl, rfl, (by decide : 2 + 0 ≤ _), (by decide : 18 + 0 ≤ _)⟩)
      dsimp only [Pt.U, Pt.locs, Pt.cells, Pt.slots] at X265 l265 y265 z265 st265 hQ265
      subst l265 y265 z265
      obtain ⟨rfl, N265q, hh265⟩ := hQ265
      have N265 := Fr.app N214 N265q
      have pre267 : ∀ t, Steps p.tables e below (T265.setTop (mkF m 323 #[iv p0, iv p1, iv p2, iv p3, iv p4, iv p5, iv va, iv vb, iv vc, iv (3 : Int32), iv (p4 &&& (7 : Int32)), iv off, rv b204, iv (1 : Int32), iv (0 : Int32), iv (0 : Int32), iv (1 : Int32), iv vt, .unset] [(.int (0 : Int32)), (.int (own_ix1 va va vb vc (0 : Int32)))])) t → Steps p.tables e below (s₁.setTop (entryFrame m #[(.int p0), (.int p1), (.int p2), (.int p3), (.int p4), (.int p5)] maxLocals)) t := by
        intro t kt
        refine pre264 _ ?_
        show Steps p.tables e below (T214.setTop (mkF m 310 #[iv p0, iv p1, iv p2, iv p3, iv p4, iv p5, iv va, iv vb, iv vc, iv (3 : Int32), iv (p4 &&& (7 : Int32)), iv off, rv b204, iv (1 : Int32), iv (0 : Int32), iv (0 : Int32), iv (1 : Int32), iv vt, .unset] [(.int (vt - va)), (.int vt), (.ref b204)])) _
        refine st265.trans ?_
        show Steps p.tables e below (T265.setTop (mkF m 313 #[iv p0, iv p1, iv p2, iv p3, iv p4, iv p5, iv va, iv vb, iv vc, iv (3 : Int32), iv (p4 &&& (7 : Int32)), iv off, rv b204, iv (1 : Int32), iv (0 : Int32), iv (0 : Int32), iv (1 : Int32), iv vt, .unset] [(.int (own_ix1 va va vb vc (0 : Int32)))])) _
        refine XS.iload X265.here hx rfl (hb hby at_313) rfl ?_
        refine XS.ifNo X265.here hx rfl (hb hby at_315) rfl ((if0 _ _).trans (feq (by decide)).1) ?_
        refine XS.iconst X265.here hx rfl (hb hby at_318) ?_
        refine XS.goto X265.here hx rfl (pc0 := 319) (pc' := 323) rfl (hb hby at_319) (by decide) (by decide) ?_
        exact kt
      have hc323_266 : (own_ix1 va va vb vc (0 : Int32)) = (0 : Int32) := by simp +decide [own_ix1, own_bs1, hab, hbc, hac, nba, ncb, nca, Int32.lt_irrefl]
      have pre268 : ∀ t, Steps p.tables e below (T265.setTop (mkF m 335 #[iv p0, iv p1, iv p2, iv p3, iv p4, iv p5, iv va, iv vb, iv vc, iv (3 : Int32), iv (p4 &&& (7 : Int32)), iv off, rv b204, iv (1 : Int32), iv (0 : Int32), iv (0 : Int32), iv (1 : Int32), iv vt, .unset] [(.int (vt - vb)), (.int vt), (.ref b204)])) t → Steps p.tables e below (s₁.setTop (entryFrame m #[(.int p0), (.int p1), (.int p2), (.int p3), (.int p4), (.int p5)] maxLocals)) t := by
        intro t kt
        refine pre267 _ ?_
        show Steps p.tables e below (T265.setTop (mkF m 323 #[iv p0, iv p1, iv p2, iv p3, iv p4, iv p5, iv va, iv vb, iv vc, iv (3 : Int32), iv (p4 &&& (7 : Int32)), iv off, rv b204, iv (1 : Int32), iv (0 : Int32), iv (0 : Int32), iv (1 : Int32), iv vt, .unset] [(.int (0 : Int32)), (.int (own_ix1 va va vb vc (0 : Int32)))])) _
        refine XS.icmpNo X265.here hx rfl (hb hby at_323) rfl (teq hc323_266).2 ?_
        refine XS.aload X265.here hx rfl (hb hby at_326) rfl rfl ?_
        refine XS.iload X265.here hx rfl (hb hby at_328) rfl ?_
        refine XS.iload X265.here hx rfl (hb hby at_330) rfl ?_
        refine XS.iload X265.here hx rfl (hb hby at_332) rfl ?_
        refine XS.isub X265.here hx rfl (hb hby at_334) rfl ?_
        exact kt
      obtain ⟨cq269, kq269, q269a, q269b, q269c⟩ := isOf hZ hh265 (((((A204.keep Kc206).keep Kc208).keep Kc210).keep Kc212).keep Kc214)
      obtain ⟨_, _, ⟨T269, L269, k269, n269⟩, -, X269, ⟨Lc269, hQ269, l269, y269, z269⟩, st269⟩ := X265.virtualBack hx (y := (⟨"com/example/bytewright/bytewright/grid/ObjectStarts", "indexOf", "(II)I"⟩ : MethodName)) (z := (⟨"com/example/bytewright/bytewright/grid/ObjectStarts", "indexOf", "(II)I"⟩ : MethodName)) hown (mvT hZ (hw _ (List.mem_of_getElem? (i := 25) rfl))) (mvT hZ (hw _ (List.mem_of_getElem? (i := 26) rfl))) (notFace_of_selects (args := #[]) (mvT hZ (hw _ (List.mem_of_getElem? (i := 28) rfl)))) (mvT hZ (hw _ (List.mem_of_getElem? (i := 28) rfl))) (mvT hZ (hw _ (List.mem_of_getElem? (i := 27) rfl))) (by decide) (backOf (W := 0) (rm5c1 l Z a0 hw [] b204 vt (vt - vb) ab206 kb206 va vb vc (0 : Int32) vb T214.heap n0 (Nat.le_trans Z0 K214.1) Fo214 Fn214 (((((A204.keep Kc206).keep Kc208).keep Kc210).keep Kc212).keep Kc214) Va214 hne206 (own_key vt vb (by have := own_next vc vt h_vt (by omega); omega)).1 (own_key vt vb (by have := own_next vc vt h_vt (by omega); omega)).2.1 (own_key vt vb (by have := own_next vc vt h_vt (by omega); omega)).2.2) hZ (hw _ (List.mem_of_getElem? (i := 29) rfl)) (hw _ (List.mem_of_getElem? (i := 3) rfl)) (by decide) (by decide)) q269a q269c (g := (mkF m 335 #[iv p0, iv p1, iv p2, iv p3, iv p4, iv p5, iv va, iv vb, iv vc, iv (3 : Int32), iv (p4 &&& (7 : Int32)), iv off, rv b204, iv (1 : Int32), iv (0 : Int32), iv (0 : Int32), iv (1 : Int32), iv vt, .unset] [(.int (vt - vb)), (.int vt), (.ref b204)])) rfl (by rw [hml]; rfl) (Steps.refl _) (argsL := [(.int vt), (.int (vt - vb))]) (rest := []) (lenOf pd7 rfl) rfl (by show 2 * 0 + _ ≤ _; exact Nat.le_of_eq rfl) (hb hby at_335) (fun _ _ => ⟨rfl, hh265, (by decide : 2 + 0 ≤ _), (by decide : 18 + 0 ≤ _)⟩)
      dsimp only [Pt.U, Pt.locs, Pt.cells, Pt.slots] at X269 l269 y269 z269 st269 hQ269
      subst l269 y269 z269
      obtain ⟨rfl, N269q, hh269⟩ := hQ269
      have N269 := Fr.app N265 N269q
      have pre271 : ∀ t, Steps p.tables e below (T269.setTop (mkF m 348 #[iv p0, iv p1, iv p2, iv p3, iv p4, iv p5, iv va, iv vb, iv vc, iv (3 : Int32), iv (p4 &&& (7 : Int32)), iv off, rv b204, iv (1 : Int32), iv (0 : Int32), iv (0 : Int32), iv (1 : Int32), iv vt, .unset] [(.int (-1 : Int32)), (.int (own_ix1 vb va vb vc (0 : Int32)))])) t → Steps p.tables e below (s₁.setTop (entryFrame m #[(.int p0), (.int p1), (.int p2), (.int p3), (.int p4), (.int p5)] maxLocals)) t := by
        intro t kt
        refine pre268 _ ?_
        show Steps p.tables e below (T265.setTop (mkF m 335 #[iv p0, iv p1, iv p2, iv p3, iv p4, iv p5, iv va, iv vb, iv vc, iv (3 : Int32), iv (p4 &&& (7 : Int32)), iv off, rv b204, iv (1 : Int32), iv (0 : Int32), iv (0 : Int32), iv (1 : Int32), iv vt, .unset] [(.int (vt - vb)), (.int vt), (.ref b204)])) _
        refine st269.trans ?_
        show Steps p.tables e below (T269.setTop (mkF m 338 #[iv p0, iv p1, iv p2, iv p3, iv p4, iv p5, iv va, iv vb, iv vc, iv (3 : Int32), iv (p4 &&& (7 : Int32)), iv off, rv b204, iv (1 : Int32), iv (0 : Int32), iv (0 : Int32), iv (1 : Int32), iv vt, .unset] [(.int (own_ix1 vb va vb vc (0 : Int32)))])) _
        refine XS.iload X269.here hx rfl (hb hby at_338) rfl ?_
        refine XS.ifYes X269.here hx rfl (pc0 := 340) (pc' := 347) rfl (hb hby at_340) rfl ((if0 _ _).trans (teq (by decide)).1) (by decide) (by decide) ?_
        refine XS.iconst X269.here hx rfl (hb hby at_347) ?_
        exact kt
      have hc348_270 : (own_ix1 vb va vb vc (0 : Int32)) = (-1 : Int32) := by simp +decide [own_ix1, own_bs1, hab, hbc, hac, nba, ncb, nca, Int32.lt_irrefl]
      have pre272 : ∀ t, Steps p.tables e below (T269.setTop (mkF m 360 #[iv p0, iv p1, iv p2, iv p3, iv p4, iv p5, iv va, iv vb, iv vc, iv (3 : Int32), iv (p4 &&& (7 : Int32)), iv off, rv b204, iv (1 : Int32), iv (0 : Int32), iv (0 : Int32), iv (1 : Int32), iv vt, .unset] [(.int (vt - vc)), (.int vt), (.ref b204)])) t → Steps p.tables e below (s₁.setTop (entryFrame m #[(.int p0), (.int p1), (.int p2), (.int p3), (.int p4), (.int p5)] maxLocals)) t := by
        intro t kt
        refine pre271 _ ?_
        show Steps p.tables e below (T269.setTop (mkF m 348 #[iv p0, iv p1, iv p2, iv p3, iv p4, iv p5, iv va, iv vb, iv vc, iv (3 : Int32), iv (p4 &&& (7 : Int32)), iv off, rv b204, iv (1 : Int32), iv (0 : Int32), iv (0 : Int32), iv (1 : Int32), iv vt, .unset] [(.int (-1 : Int32)), (.int (own_ix1 vb va vb vc (0 : Int32)))])) _
        refine XS.icmpNo X269.here hx rfl (hb hby at_348) rfl (teq hc348_270).2 ?_
        refine XS.aload X269.here hx rfl (hb hby at_351) rfl rfl ?_
        refine XS.iload X269.here hx rfl (hb hby at_353) rfl ?_
        refine XS.iload X269.here hx rfl (hb hby at_355) rfl ?_
        refine XS.iload X269.here hx rfl (hb hby at_357) rfl ?_
        refine XS.isub X269.here hx rfl (hb hby at_359) rfl ?_
        exact kt
      obtain ⟨cq273, kq273, q273a, q273b, q273c⟩ := isOf hZ hh269 (((((A204.keep Kc206).keep Kc208).keep Kc210).keep Kc212).keep Kc214)
      obtain ⟨_, _, ⟨T273, L273, k273, n273⟩, -, X273, ⟨Lc273, hQ273, l273, y273, z273⟩, st273⟩ := X269.virtualBack hx (y := (⟨"com/example/bytewright/bytewright/grid/ObjectStarts", "indexOf", "(II)I"⟩ : MethodName)) (z := (⟨"com/example/bytewright/bytewright/grid/ObjectStarts", "indexOf", "(II)I"⟩ : MethodName)) hown (mvT hZ (hw _ (List.mem_of_getElem? (i := 25) rfl))) (mvT hZ (hw _ (List.mem_of_getElem? (i := 26) rfl))) (notFace_of_selects (args := #[]) (mvT hZ (hw _ (List.mem_of_getElem? (i := 28) rfl)))) (mvT hZ (hw _ (List.mem_of_getElem? (i := 28) rfl))) (mvT hZ (hw _ (List.mem_of_getElem? (i := 27) rfl))) (by decide) (backOf (W := 0) (rm5c1 l Z a0 hw [] b204 vt (vt - vc) ab206 kb206 va vb vc (0 : Int32) vc T214.heap n0 (Nat.le_trans Z0 K214.1) Fo214 Fn214 (((((A204.keep Kc206).keep Kc208).keep Kc210).keep Kc212).keep Kc214) Va214 hne206 (own_key vt vc (by have := own_next vc vt h_vt (by omega); omega)).1 (own_key vt vc (by have := own_next vc vt h_vt (by omega); omega)).2.1 (own_key vt vc (by have := own_next vc vt h_vt (by omega); omega)).2.2) hZ (hw _ (List.mem_of_getElem? (i := 29) rfl)) (hw _ (List.mem_of_getElem? (i := 3) rfl)) (by decide) (by decide)) q273a q273c (g := (mkF m 360 #[iv p0, iv p1, iv p2, iv p3, iv p4, iv p5, iv va, iv vb, iv vc, iv (3 : Int32), iv (p4 &&& (7 : Int32)), iv off, rv b204, iv (1 : Int32), iv (0 : Int32), iv (0 : Int32), iv (1 : Int32), iv vt, .unset] [(.int (vt - vc)), (.int vt), (.ref b204)])) rfl (by rw [hml]; rfl) (Steps.refl _) (argsL := [(.int vt), (.int (vt - vc))]) (rest := []) (lenOf pd7 rfl) rfl (by show 2 * 0 + _ ≤ _; exact Nat.le_of_eq rfl) (hb hby at_360) (fun _ _ => ⟨rfl, hh269, (by decide : 2 + 0 ≤ _), (by decide : 18 + 0 ≤ _)⟩)
      dsimp only [Pt.U, Pt.locs, Pt.cells, Pt.slots] at X273 l273 y273 z273 st273 hQ273
      subst l273 y273 z273
      obtain ⟨rfl, N273q, hh273⟩ := hQ273
      have N273 := Fr.app N269 N273q
      have pre275 : ∀ t, Steps p.tables e below (T273.setTop (mkF m 373 #[iv p0, iv p1, iv p2, iv p3, iv p4, iv p5, iv va, iv vb, iv vc, iv (3 : Int32), iv (p4 &&& (7 : Int32)), iv off, rv b204, iv (1 : Int32), iv (0 : Int32), iv (0 : Int32), iv (1 : Int32), iv vt, .unset] [(.int (-1 : Int32)), (.int (own_ix1 vc va vb vc (0 : Int32)))])) t → Steps p.tables e below (s₁.setTop (entryFrame m #[(.int p0), (.int p1), (.int p2), (.int p3), (.int p4), (.int p5)] maxLocals)) t := by
        intro t kt
        refine pre272 _ ?_
        show Steps p.tables e below (T269.setTop (mkF m 360 #[iv p0, iv p1, iv p2, iv p3, iv p4, iv p5, iv va, iv vb, iv vc, iv (3 : Int32), iv (p4 &&& (7 : Int32)), iv off, rv b204, iv (1 : Int32), iv (0 : Int32), iv (0 : Int32), iv (1 : Int32), iv vt, .unset] [(.int (vt - vc)), (.int vt), (.ref b204)])) _
        refine st273.trans ?_
        show Steps p.tables e below (T273.setTop (mkF m 363 #[iv p0, iv p1, iv p2, iv p3, iv p4, iv p5, iv va, iv vb, iv vc, iv (3 : Int32), iv (p4 &&& (7 : Int32)), iv off, rv b204, iv (1 : Int32), iv (0 : Int32), iv (0 : Int32), iv (1 : Int32), iv vt, .unset] [(.int (own_ix1 vc va vb vc (0 : Int32)))])) _
        refine XS.iload X273.here hx rfl (hb hby at_363) rfl ?_
        refine XS.ifYes X273.here hx rfl (pc0 := 365) (pc' := 372) rfl (hb hby at_365) rfl ((if0 _ _).trans (teq (by decide)).1) (by decide) (by decide) ?_
        refine XS.iconst X273.here hx rfl (hb hby at_372) ?_
        exact kt
      have hc373_274 : (own_ix1 vc va vb vc (0 : Int32)) = (-1 : Int32) := by simp +decide [own_ix1, own_bs1, hab, hbc, hac, nba, ncb, nca, Int32.lt_irrefl]
      have pre276 : ∀ t, Steps p.tables e below (T273.setTop (mkF m 392 #[iv p0, iv p1, iv p2, iv p3, iv p4, iv p5, iv va, iv vb, iv vc, iv (3 : Int32), iv (p4 &&& (7 : Int32)), iv off, rv b204, iv (1 : Int32), iv (0 : Int32), iv (0 : Int32), iv (1 : Int32), iv vt, iv (1 : Int32)] [(.int vt), (.ref b204)])) t → Steps p.tables e below (s₁.setTop (entryFrame m #[(.int p0), (.int p1), (.int p2), (.int p3), (.int p4), (.int p5)] maxLocals)) t := by
        intro t kt
        refine pre275 _ ?_
        show Steps p.tables e below (T273.setTop (mkF m 373 #[iv p0, iv p1, iv p2, iv p3, iv p4, iv p5, iv va, iv vb, iv vc, iv (3 : Int32), iv (p4 &&& (7 : Int32)), iv off, rv b204, iv (1 : Int32), iv (0 : Int32), iv (0 : Int32), iv (1 : Int32), iv vt, .unset] [(.int (-1 : Int32)), (.int (own_ix1 vc va vb vc (0 : Int32)))])) _
        refine XS.icmpNo X273.here hx rfl (hb hby at_373) rfl (teq hc373_274).2 ?_
        refine XS.iconst X273.here hx rfl (hb hby at_376) ?_
        refine XS.goto X273.here hx rfl (pc0 := 377) (pc' := 381) rfl (hb hby at_377) (by decide) (by decide) ?_
        refine XS.istore X273.here hx rfl (hb hby at_381) rfl (l' := #[iv p0, iv p1, iv p2, iv p3, iv p4, iv p5, iv va, iv vb, iv vc, iv (3 : Int32), iv (p4 &&& (7 : Int32)), iv off, rv b204, iv (1 : Int32), iv (0 : Int32), iv (0 : Int32), iv (1 : Int32), iv vt, iv (1 : Int32)]) rfl ?_
        refine XS.iload X273.here hx rfl (hb hby at_383) rfl ?_
        refine XS.ifNo X273.here hx rfl (hb hby at_385) rfl ((if0 _ _).trans (feq (by decide)).1) ?_
        refine XS.aload X273.here hx rfl (hb hby at_388) rfl rfl ?_
        refine XS.iload X273.here hx rfl (hb hby at_390) rfl ?_
        exact kt
      obtain ⟨cq277, kq277, q277a, q277b, q277c⟩ := isOf hZ hh273 (((((A204.keep Kc206).keep Kc208).keep Kc210).keep Kc212).keep Kc214)
      obtain ⟨_, _, ⟨T277, L277, k277, n277⟩, -, X277, ⟨Lc277, hQ277, l277, y277, z277⟩, st277⟩ := X273.virtualBack hx (y := (⟨"com/example/bytewright/bytewright/grid/ObjectStarts", "add", "(I)I"⟩ : MethodName)) (z := (⟨"com/example/bytewright/bytewright/grid/ObjectStarts", "add", "(I)I"⟩ : MethodName)) hown (mvT hZ (hw _ (List.mem_of_getElem? (i := 13) rfl))) (mvT hZ (hw _ (List.mem_of_getElem? (i := 14) rfl))) (notFace_of_selects (args := #[]) (mvT hZ (hw _ (List.mem_of_getElem? (i := 16) rfl)))) (mvT hZ (hw _ (List.mem_of_getElem? (i := 16) rfl))) (mvT hZ (hw _ (List.mem_of_getElem? (i := 15) rfl))) (by decide) (backOf (W := 0) (rm3c1 l Z a0 hw [] b204 vt ab206 kb206 va vb vc (0 : Int32) T214.heap n0 (Nat.le_trans Z0 K214.1) Fo214 Fn214 (((((A204.keep Kc206).keep Kc208).keep Kc210).keep Kc212).keep Kc214) g_b204 Va214 g_ab206 hne206 (Int32.lt_iff_toInt_lt.mpr (by omega))) hZ (hw _ (List.mem_of_getElem? (i := 17) rfl)) (hw _ (List.mem_of_getElem? (i := 3) rfl)) (by decide) (by decide)) q277a q277c (g := (mkF m 392 #[iv p0, iv p1, iv p2, iv p3, iv p4, iv p5, iv va, iv vb, iv vc, iv (3 : Int32), iv (p4 &&& (7 : Int32)), iv off, rv b204, iv (1 : Int32), iv (0 : Int32), iv (0 : Int32), iv (1 : Int32), iv vt, iv (1 : Int32)] [(.int vt), (.ref b204)])) rfl (by rw [hml]; rfl) (Steps.refl _) (argsL := [(.int vt)]) (rest := []) (lenOf pd8 rfl) rfl (by show 2 * 0 + _ ≤ _; exact Nat.le_of_eq rfl) (hb hby at_392) (fun _ _ => ⟨rfl, hh273, (by decide : 2 + 0 ≤ _), (by decide : 18 + 0 ≤ _)⟩)
      dsimp only [Pt.U, Pt.locs, Pt.cells, Pt.slots] at X277 l277 y277 z277 st277 hQ277
      subst l277 y277 z277
      obtain ⟨rfl, N277q, Kc277, Fo277, Fn277, Va277⟩ := hQ277
      have N277 := Fr.app N273 N277q
      have K277 : Keep h0 T277.heap [] := K214.trans Kc277 (allS (Or.inr sz_b204) (allS (Or.inr sz_ab206) all0))
      have pre278 : ∀ t, Steps p.tables e below (T277.setTop (mkF m 405 #[iv p0, iv p1, iv p2, iv p3, iv p4, iv p5, iv va, iv vb, iv vc, iv (3 : Int32), iv (p4 &&& (7 : Int32)), iv off, rv b204, iv (1 : Int32), iv (0 : Int32), iv (0 : Int32), iv (1 : Int32), iv vt, iv (1 : Int32)] [(.int (1 : Int32))])) t → Steps p.tables e below (s₁.setTop (entryFrame m #[(.int p0), (.int p1), (.int p2), (.int p3), (.int p4), (.int p5)] maxLocals)) t := by
        intro t kt
        refine pre276 _ ?_
        show Steps p.tables e below (T273.setTop (mkF m 392 #[iv p0, iv p1, iv p2, iv p3, iv p4, iv p5, iv va, iv vb, iv vc, iv (3 : Int32), iv (p4 &&& (7 : Int32)), iv off, rv b204, iv (1 : Int32), iv (0 : Int32), iv (0 : Int32), iv (1 : Int32), iv vt, iv (1 : Int32)] [(.int vt), (.ref b204)])) _
        refine st277.trans ?_
        show Steps p.tables e below (T277.setTop (mkF m 395 #[iv p0, iv p1, iv p2, iv p3, iv p4, iv p5, iv va, iv vb, iv vc, iv (3 : Int32), iv (p4 &&& (7 : Int32)), iv off, rv b204, iv (1 : Int32), iv (0 : Int32), iv (0 : Int32), iv (1 : Int32), iv vt, iv (1 : Int32)] [(.int (1 : Int32))])) _
        refine XS.iload X277.here hx rfl (hb hby at_395) rfl ?_
        refine XS.icmpNo X277.here hx rfl (hb hby at_397) rfl (teq (by decide)).2 ?_
        refine XS.iconst X277.here hx rfl (hb hby at_400) ?_
        refine XS.goto X277.here hx rfl (pc0 := 401) (pc' := 405) rfl (hb hby at_401) (by decide) (by decide) ?_
        exact kt
      obtain ⟨fs, hr, hrun, hended, hW, hsame⟩ := X277.leave (v := some (.int (1 : Int32))) (fun h => by rw [Bd.returns] at h; cases h)
      refine ⟨_, _, pre278 _ ?_, hrun, hended, _, _, rfl, ?_, ⟨_, rfl⟩, hW, hsame.mono (by decide) (by decide)⟩
      · show Steps p.tables e below (T277.setTop (mkF m 405 #[iv p0, iv p1, iv p2, iv p3, iv p4, iv p5, iv va, iv vb, iv vc, iv (3 : Int32), iv (p4 &&& (7 : Int32)), iv off, rv b204, iv (1 : Int32), iv (0 : Int32), iv (0 : Int32), iv (1 : Int32), iv vt, iv (1 : Int32)] [(.int (1 : Int32))])) _
        exact retN X277 hx (t := .boolean) Bd.returns (by simp) (hb hby at_405) hr
      · show Q0 Z p0 p1 p2 p3 p4 p5 h0 n0 _ T277.heap _
        exact ⟨rfl, N277⟩
    · have hkk := Nat.le_refl 0
      rw [Int32.lt_iff_toInt_lt] at t2
      rw [Int32.lt_iff_toInt_lt] at t1
      rw [Int32.lt_iff_toInt_lt] at t0
      have pre280 : ∀ t, Steps p.tables e below (T214.setTop (mkF m 211 #[iv p0, iv p1, iv p2, iv p3, iv p4, iv p5, iv va, iv vb, iv vc, iv (3 : Int32), iv (p4 &&& (7 : Int32)), iv off, rv b204, .unset, .unset, .unset, .unset, .unset, .unset] [(.int off), (.int va)])) t → Steps p.tables e below (s₁.setTop (entryFrame m #[(.int p0), (.int p1), (.int p2), (.int p3), (.int p4), (.int p5)] maxLocals)) t := by
        intro t kt
        refine pre215 _ ?_
        show Steps p.tables e below (T214.setTop (mkF m 201 #[iv p0, iv p1, iv p2, iv p3, iv p4, iv p5, iv va, iv vb, iv vc, iv (3 : Int32), iv (p4 &&& (7 : Int32)), iv off, rv b204, .unset, .unset, .unset, .unset, .unset, .unset] [])) _
        refine XS.iload X214.here hx rfl (hb hby at_201) rfl ?_
        refine XS.iconst X214.here hx rfl (hb hby at_203) ?_
        refine XS.icmpNo X214.here hx rfl (hb hby at_204) rfl (flt (by decide)).1 ?_
        refine XS.iload X214.here hx rfl (hb hby at_207) rfl ?_
        refine XS.iload X214.here hx rfl (hb hby at_209) rfl ?_
        exact kt
      have hc211_279 : ¬ (va < off) := by rw [Int32.lt_iff_toInt_lt]; omega
      have pre282 : ∀ t, Steps p.tables e below (T214.setTop (mkF m 231 #[iv p0, iv p1, iv p2, iv p3, iv p4, iv p5, iv va, iv vb, iv vc, iv (3 : Int32), iv (p4 &&& (7 : Int32)), iv off, rv b204, iv (0 : Int32), .unset, .unset, .unset, .unset, .unset] [(.int off), (.int vb)])) t → Steps p.tables e below (s₁.setTop (entryFrame m #[(.int p0), (.int p1), (.int p2), (.int p3), (.int p4), (.int p5)] maxLocals)) t := by
        intro t kt
        refine pre280 _ ?_
        show Steps p.tables e below (T214.setTop (mkF m 211 #[iv p0, iv p1, iv p2, iv p3, iv p4, iv p5, iv va, iv vb, iv vc, iv (3 : Int32), iv (p4 &&& (7 : Int32)), iv off, rv b204, .unset, .unset, .unset, .unset, .unset, .unset] [(.int off), (.int va)])) _
        refine XS.icmpYes X214.here hx rfl (pc0 := 211) (pc' := 218) rfl (hb hby at_211) rfl (flt hc211_279).2.1 (by decide) (by decide) ?_
        refine XS.iconst X214.here hx rfl (hb hby at_218) ?_
        refine XS.istore X214.here hx rfl (hb hby at_219) rfl (l' := #[iv p0, iv p1, iv p2, iv p3, iv p4, iv p5, iv va, iv vb, iv vc, iv (3 : Int32), iv (p4 &&& (7 : Int32)), iv off, rv b204, iv (0 : Int32), .unset, .unset, .unset, .unset, .unset]) rfl ?_
        refine XS.iload X214.here hx rfl (hb hby at_221) rfl ?_
        refine XS.iconst X214.here hx rfl (hb hby at_223) ?_
        refine XS.icmpNo X214.here hx rfl (hb hby at_224) rfl (flt (by decide)).1 ?_
        refine XS.iload X214.here hx rfl (hb hby at_227) rfl ?_
        refine XS.iload X214.here hx rfl (hb hby at_229) rfl ?_
        exact kt
      have hc231_281 : ¬ (vb < off) := by rw [Int32.lt_iff_toInt_lt]; omega
      have pre284 : ∀ t, Steps p.tables e below (T214.setTop (mkF m 251 #[iv p0, iv p1, iv p2, iv p3, iv p4, iv p5, iv va, iv vb, iv vc, iv (3 : Int32), iv (p4 &&& (7 : Int32)), iv off, rv b204, iv (0 : Int32), iv (0 : Int32), .unset, .unset, .unset, .unset] [(.int off), (.int vc)])) t → Steps p.tables e below (s₁.setTop (entryFrame m #[(.int p0), (.int p1), (.int p2), (.int p3), (.int p4), (.int p5)] maxLocals)) t := by
        intro t kt
        refine pre282 _ ?_
        show Steps p.tables e below (T214.setTop (mkF m 231 #[iv p0, iv p1, iv p2, iv p3, iv p4, iv p5, iv va, iv vb, iv vc, iv (3 : Int32), iv (p4 &&& (7 : Int32)), iv off, rv b204, iv (0 : Int32), .unset, .unset, .unset, .unset, .unset] [(.int off), (.int vb)])) _
        refine XS.icmpYes X214.here hx rfl (pc0 := 231) (pc' := 238) rfl (hb hby at_231) rfl (flt hc231_281).2.1 (by decide) (by decide) ?_
        refine XS.iconst X214.here hx rfl (hb hby at_238) ?_
        refine XS.istore X214.here hx rfl (hb hby at_239) rfl (l' := #[iv p0, iv p1, iv p2, iv p3, iv p4, iv p5, iv va, iv vb, iv vc, iv (3 : Int32), iv (p4 &&& (7 : Int32)), iv off, rv b204, iv (0 : Int32), iv (0 : Int32), .unset, .unset, .unset, .unset]) rfl ?_
        refine XS.iload X214.here hx rfl (hb hby at_241) rfl ?_
        refine XS.iconst X214.here hx rfl (hb hby at_243) ?_
        refine XS.icmpNo X214.here hx rfl (hb hby at_244) rfl (flt (by decide)).1 ?_
        refine XS.iload X214.here hx rfl (hb hby at_247) rfl ?_
        refine XS.iload X214.here hx rfl (hb hby at_249) rfl ?_
        exact kt
      have hc251_283 : ¬ (vc < off) := by rw [Int32.lt_iff_toInt_lt]; omega
      obtain ⟨vt, h_vt⟩ : ∃ z : Int32, z = (vc + (1 : Int32)) := ⟨_, rfl⟩
      have hvt := own_next vc vt h_vt (by omega)
      have pre285 : ∀ t, Steps p.tables e below (T214.setTop (mkF m 310 #[iv p0, iv p1, iv p2, iv p3, iv p4, iv p5, iv va, iv vb, iv vc, iv (3 : Int32), iv (p4 &&& (7 : Int32)), iv off, rv b204, iv (0 : Int32), iv (0 : Int32), iv (0 : Int32), iv (0 : Int32), iv vt, .unset] [(.int (vt - va)), (.int vt), (.ref b204)])) t → Steps p.tables e below (s₁.setTop (entryFrame m #[(.int p0), (.int p1), (.int p2), (.int p3), (.int p4), (.int p5)] maxLocals)) t := by
        intro t kt
        refine pre284 _ ?_
        show Steps p.tables e below (T214.setTop (mkF m 251 #[iv p0, iv p1, iv p2, iv p3, iv p4, iv p5, iv va, iv vb, iv vc, iv (3 : Int32), iv (p4 &&& (7 : Int32)), iv off, rv b204, iv (0 : Int32), iv (0 : Int32), .unset, .unset, .unset, .unset] [(.int off), (.int vc)])) _
        refine XS.icmpYes X214.here hx rfl (pc0 := 251) (pc' := 258) rfl (hb hby at_251) rfl (flt hc251_283).2.1 (by decide) (by decide) ?_
        refine XS.iconst X214.here hx rfl (hb hby at_258) ?_
        refine XS.istore X214.here hx rfl (hb hby at_259) rfl (l' := #[iv p0, iv p1, iv p2, iv p3, iv p4, iv p5, iv va, iv vb, iv vc, iv (3 : Int32), iv (p4 &&& (7 : Int32)), iv off, rv b204, iv (0 : Int32), iv (0 : Int32), iv (0 : Int32), .unset, .unset, .unset]) rfl ?_
        refine XS.iload X214.here hx rfl (hb hby at_261) rfl ?_
        refine XS.ifYes X214.here hx rfl (pc0 := 263) (pc' := 270) rfl (hb hby at_263) rfl ((if0 _ _).trans (teq (by decide)).1) (by decide) (by decide) ?_
        refine XS.iconst X214.here hx rfl (hb hby at_270) ?_
        refine XS.iload X214.here hx rfl (hb hby at_271) rfl ?_
        refine XS.ifYes X214.here hx rfl (pc0 := 273) (pc' := 280) rfl (hb hby at_273) rfl ((if0 _ _).trans (teq (by decide)).1) (by decide) (by decide) ?_
        show Steps p.tables e below (T214.setTop (mkF m 280 #[iv p0, iv p1, iv p2, iv p3, iv p4, iv p5, iv va, iv vb, iv vc, iv (3 : Int32), iv (p4 &&& (7 : Int32)), iv off, rv b204, iv (0 : Int32), iv (0 : Int32), iv (0 : Int32), .unset, .unset, .unset] [(.int (0 : Int32))])) _
        refine XS.iconst X214.here hx rfl (hb hby at_280) ?_
        refine XS.iadd X214.here hx rfl (hb hby at_281) rfl ?_
        show Steps p.tables e below (T214.setTop (mkF m 282 #[iv p0, iv p1, iv p2, iv p3, iv p4, iv p5, iv va, iv vb, iv vc, iv (3 : Int32), iv (p4 &&& (7 : Int32)), iv off, rv b204, iv (0 : Int32), iv (0 : Int32), iv (0 : Int32), .unset, .unset, .unset] [(.int ((0 : Int32) + (0 : Int32)))])) _
        rw [show ((0 : Int32) + (0 : Int32)) = (0 : Int32) from (by decide)]
        show Steps p.tables e below (T214.setTop (mkF m 282 #[iv p0, iv p1, iv p2, iv p3, iv p4, iv p5, iv va, iv vb, iv vc, iv (3 : Int32), iv (p4 &&& (7 : Int32)), iv off, rv b204, iv (0 : Int32), iv (0 : Int32), iv (0 : Int32), .unset, .unset, .unset] [(.int (0 : Int32))])) _
        refine XS.iload X214.here hx rfl (hb hby at_282) rfl ?_
        refine XS.ifYes X214.here hx rfl (pc0 := 284) (pc' := 291) rfl (hb hby at_284) rfl ((if0 _ _).trans (teq (by decide)).1) (by decide) (by decide) ?_
        refine XS.iconst X214.here hx rfl (hb hby at_291) ?_
        refine XS.iadd X214.here hx rfl (hb hby at_292) rfl ?_
        show Steps p.tables e below (T214.setTop (mkF m 293 #[iv p0, iv p1, iv p2, iv p3, iv p4, iv p5, iv va, iv vb, iv vc, iv (3 : Int32), iv (p4 &&& (7 : Int32)), iv off, rv b204, iv (0 : Int32), iv (0 : Int32), iv (0 : Int32), .unset, .unset, .unset] [(.int ((0 : Int32) + (0 : Int32)))])) _
        rw [show ((0 : Int32) + (0 : Int32)) = (0 : Int32) from (by decide)]
        show Steps p.tables e below (T214.setTop (mkF m 293 #[iv p0, iv p1, iv p2, iv p3, iv p4, iv p5, iv va, iv vb, iv vc, iv (3 : Int32), iv (p4 &&& (7 : Int32)), iv off, rv b204, iv (0 : Int32), iv (0 : Int32), iv (0 : Int32), .unset, .unset, .unset] [(.int (0 : Int32))])) _
        refine XS.istore X214.here hx rfl (hb hby at_293) rfl (l' := #[iv p0, iv p1, iv p2, iv p3, iv p4, iv p5, iv va, iv vb, iv vc, iv (3 : Int32), iv (p4 &&& (7 : Int32)), iv off, rv b204, iv (0 : Int32), iv (0 : Int32), iv (0 : Int32), iv (0 : Int32), .unset, .unset]) rfl ?_
        refine XS.iload X214.here hx rfl (hb hby at_295) rfl ?_
        refine XS.iconst X214.here hx rfl (hb hby at_297) ?_
        refine XS.iadd X214.here hx rfl (hb hby at_298) rfl ?_
        refine XS.istore X214.here hx rfl (hb hby at_299) rfl (l' := #[iv p0, iv p1, iv p2, iv p3, iv p4, iv p5, iv va, iv vb, iv vc, iv (3 : Int32), iv (p4 &&& (7 : Int32)), iv off, rv b204, iv (0 : Int32), iv (0 : Int32), iv (0 : Int32), iv (0 : Int32), iv (vc + (1 : Int32)), .unset]) rfl ?_
        show Steps p.tables e below (T214.setTop (mkF m 301 #[iv p0, iv p1, iv p2, iv p3, iv p4, iv p5, iv va, iv vb, iv vc, iv (3 : Int32), iv (p4 &&& (7 : Int32)), iv off, rv b204, iv (0 : Int32), iv (0 : Int32), iv (0 : Int32), iv (0 : Int32), iv (vc + (1 : Int32)), .unset] [])) _
        rw [← h_vt]
        show Steps p.tables e below (T214.setTop (mkF m 301 #[iv p0, iv p1, iv p2, iv p3, iv p4, iv p5, iv va, iv vb, iv vc, iv (3 : Int32), iv (p4 &&& (7 : Int32)), iv off, rv b204, iv (0 : Int32), iv (0 : Int32), iv (0 : Int32), iv (0 : Int32), iv vt, .unset] [])) _
        refine XS.aload X214.here hx rfl (hb hby at_301) rfl rfl ?_
        refine XS.iload X214.here hx rfl (hb hby at_303) rfl ?_
        refine XS.iload X214.here hx rfl (hb hby at_305) rfl ?_
        refine XS.iload X214.here hx rfl (hb hby at_307) rfl ?_
        refine XS.isub X214.here hx rfl (hb hby at_309) rfl ?_
        exact kt
      obtain ⟨cq286, kq286, q286a, q286b, q286c⟩ := isOf hZ rfl (((((A204.keep Kc206).keep Kc208).keep Kc210).keep Kc212).keep Kc214)
      obtain ⟨_, _, ⟨T286, L286, k286, n286⟩, -, X286, ⟨Lc286, hQ286, l286, y286, z286⟩, st286⟩ := X214.virtualBack hx (y := (⟨"com/example/bytewright/bytewright/grid/ObjectStarts", "indexOf", "(II)I"⟩ : MethodName)) (z := (⟨"com/example/bytewright/bytewright/grid/ObjectStarts", "indexOf", "(II)I"⟩ : MethodName)) hown (mvT hZ (hw _ (List.mem_of_getElem? (i := 25) rfl))) (mvT hZ (hw _ (List.mem_of_getElem? (i := 26) rfl))) (notFace_of_selects (args := #[]) (mvT hZ (hw _ (List.mem_of_getElem? (i := 28) rfl)))) (mvT hZ (hw _ (List.mem_of_getElem? (i := 28) rfl))) (mvT hZ (hw _ (List.mem_of_getElem? (i := 27) rfl))) (by decide) (backOf (W := 0) (rm5c0 l Z a0 hw [] b204 vt (vt - va) ab206 kb206 va vb vc (0 : Int32) va T214.heap n0 (Nat.le_trans Z0 K214.1) Fo214 Fn214 (((((A204.keep Kc206).keep Kc208).keep Kc210).keep Kc212).keep Kc214) Va214 hne206 (own_key vt va (by have := own_next vc vt h_vt (by omega); omega)).1 (own_key vt va (by have := own_next vc vt h_vt (by omega); omega)).2.1 (own_key vt va (by have := own_next vc vt h_vt (by omega); omega)).2.2) hZ (hw _ (List.mem_of_getElem? (i := 29) rfl)) (hw _ (List.mem_of_getElem? (i := 3) rfl)) (by decide) (by decide)) q286a q286c (g := (mkF m 310 #[iv p0, iv p1, iv p2, iv p3, iv p4, iv p5, iv va, iv vb, iv vc, iv (3 : Int32), iv (p4 &&& (7 : Int32)), iv off, rv b204, iv (0 : Int32), iv (0 : Int32), iv (0 : Int32), iv (0 : Int32), iv vt, .unset] [(.int (vt - va)), (.int vt), (.ref b204)])) rfl (by rw [hml]; rfl) (Steps.refl _) (argsL := [(.int vt), (.int (vt - va))]) (rest := []) (lenOf pd7 rfl) rfl (by show 2 * 0 + _ ≤ _; exact Nat.le_of_eq rfl) (hb hby at_310) (fun _ _ => ⟨rfl, rfl, (by decide : 2 + 0 ≤ _), (by decide : 18 + 0 ≤ _)⟩)
      dsimp only [Pt.U, Pt.locs, Pt.cells, Pt.slots] at X286 l286 y286 z286 st286 hQ286
      subst l286 y286 z286
      obtain ⟨rfl, N286q, hh286⟩ := hQ286
      have N286 := Fr.app N214 N286q
      have pre288 : ∀ t, Steps p.tables e below (T286.setTop (mkF m 323 #[iv p0, iv p1, iv p2, iv p3, iv p4, iv p5, iv va, iv vb, iv vc, iv (3 : Int32), iv (p4 &&& (7 : Int32)), iv off, rv b204, iv (0 : Int32), iv (0 : Int32), iv (0 : Int32), iv (0 : Int32), iv vt, .unset] [(.int (-1 : Int32)), (.int (own_ix0 va va vb vc (0 : Int32)))])) t → Steps p.tables e below (s₁.setTop (entryFrame m #[(.int p0), (.int p1), (.int p2), (.int p3), (.int p4), (.int p5)] maxLocals)) t := by
        intro t kt
        refine pre285 _ ?_
        show Steps p.tables e below (T214.setTop (mkF m 310 #[iv p0, iv p1, iv p2, iv p3, iv p4, iv p5, iv va, iv vb, iv vc, iv (3 : Int32), iv (p4 &&& (7 : Int32)), iv off, rv b204, iv (0 : Int32), iv (0 : Int32), iv (0 : Int32), iv (0 : Int32), iv vt, .unset] [(.int (vt - va)), (.int vt), (.ref b204)])) _
        refine st286.trans ?_
        show Steps p.tables e below (T286.setTop (mkF m 313 #[iv p0, iv p1, iv p2, iv p3, iv p4, iv p5, iv va, iv vb, iv vc, iv (3 : Int32), iv (p4 &&& (7 : Int32)), iv off, rv b204, iv (0 : Int32), iv (0 : Int32), iv (0 : Int32), iv (0 : Int32), iv vt, .unset] [(.int (own_ix0 va va vb vc (0 : Int32)))])) _
        refine XS.iload X286.here hx rfl (hb hby at_313) rfl ?_
        refine XS.ifYes X286.here hx rfl (pc0 := 315) (pc' := 322) rfl (hb hby at_315) rfl ((if0 _ _).trans (teq (by decide)).1) (by decide) (by decide) ?_
        refine XS.iconst X286.here hx rfl (hb hby at_322) ?_
        exact kt
      have hc323_287 : (own_ix0 va va vb vc (0 : Int32)) = (-1 : Int32) := by simp +decide [own_ix0, own_bs0, hab, hbc, hac, nba, ncb, nca, Int32.lt_irrefl]
      have pre289 : ∀ t, Steps p.tables e below (T286.setTop (mkF m 335 #[iv p0, iv p1, iv p2, iv p3, iv p4, iv p5, iv va, iv vb, iv vc, iv (3 : Int32), iv (p4 &&& (7 : Int32)), iv off, rv b204, iv (0 : Int32), iv (0 : Int32), iv (0 : Int32), iv (0 : Int32), iv vt, .unset] [(.int (vt - vb)), (.int vt), (.ref b204)])) t → Steps p.tables e below (s₁.setTop (entryFrame m #[(.int p0), (.int p1), (.int p2), (.int p3), (.int p4), (.int p5)] maxLocals)) t := by
        intro t kt
        refine pre288 _ ?_
        show Steps p.tables e below (T286.setTop (mkF m 323 #[iv p0, iv p1, iv p2, iv p3, iv p4, iv p5, iv va, iv vb, iv vc, iv (3 : Int32), iv (p4 &&& (7 : Int32)), iv off, rv b204, iv (0 : Int32), iv (0 : Int32), iv (0 : Int32), iv (0 : Int32), iv vt, .unset] [(.int (-1 : Int32)), (.int (own_ix0 va va vb vc (0 : Int32)))])) _
        refine XS.icmpNo X286.here hx rfl (hb hby at_323) rfl (teq hc323_287).2 ?_
        refine XS.aload X286.here hx rfl (hb hby at_326) rfl rfl ?_
        refine XS.iload X286.here hx rfl (hb hby at_328) rfl ?_
        refine XS.iload X286.here hx rfl (hb hby at_330) rfl ?_
        refine XS.iload X286.here hx rfl (hb hby at_332) rfl ?_
        refine XS.isub X286.here hx rfl (hb hby at_334) rfl ?_
        exact kt
      obtain ⟨cq290, kq290, q290a, q290b, q290c⟩ := isOf hZ hh286 (((((A204.keep Kc206).keep Kc208).keep Kc210).keep Kc212).keep Kc214)
      obtain ⟨_, _, ⟨T290, L290, k290, n290⟩, -, X290, ⟨Lc290, hQ290, l290, y290, z290⟩, st290⟩ := X286.virtualBack hx (y := (⟨"com/example/bytewright/bytewright/grid/ObjectStarts", "indexOf", "(II)I"⟩ : MethodName)) (z := (⟨"com/example/bytewright/bytewright/grid/ObjectStarts", "indexOf", "(II)I"⟩ : MethodName)) hown (mvT hZ (hw _ (List.mem_of_getElem? (i := 25) rfl))) (mvT hZ (hw _ (List.mem_of_getElem? (i := 26) rfl))) (notFace_of_selects (args := #[]) (mvT hZ (hw _ (List.mem_of_getElem? (i := 28) rfl)))) (mvT hZ (hw _ (List.mem_of_getElem? (i := 28) rfl))) (mvT hZ (hw _ (List.mem_of_getElem? (i := 27) rfl))) (by decide) (backOf (W := 0) (rm5c0 l Z a0 hw [] b204 vt (vt - vb) ab206 kb206 va vb vc (0 : Int32) vb T214.heap n0 (Nat.le_trans Z0 K214.1) Fo214 Fn214 (((((A204.keep Kc206).keep Kc208).keep Kc210).keep Kc212).keep Kc214) Va214 hne206 (own_key vt vb (by have := own_next vc vt h_vt (by omega); omega)).1 (own_key vt vb (by have := own_next vc vt h_vt (by omega); omega)).2.1 (own_key vt vb (by have := own_next vc vt h_vt (by omega); omega)).2.2) hZ (hw _ (List.mem_of_getElem? (i := 29) rfl)) (hw _ (List.mem_of_getElem? (i := 3) rfl)) (by decide) (by decide)) q290a q290c (g := (mkF m 335 #[iv p0, iv p1, iv p2, iv p3, iv p4, iv p5, iv va, iv vb, iv vc, iv (3 : Int32), iv (p4 &&& (7 : Int32)), iv off, rv b204, iv (0 : Int32), iv (0 : Int32), iv (0 : Int32), iv (0 : Int32), iv vt, .unset] [(.int (vt - vb)), (.int vt), (.ref b204)])) rfl (by rw [hml]; rfl) (Steps.refl _) (argsL := [(.int vt), (.int (vt - vb))]) (rest := []) (lenOf pd7 rfl) rfl (by show 2 * 0 + _ ≤ _; exact Nat.le_of_eq rfl) (hb hby at_335) (fun _ _ => ⟨rfl, hh286, (by decide : 2 + 0 ≤ _), (by decide : 18 + 0 ≤ _)⟩)
      dsimp only [Pt.U, Pt.locs, Pt.cells, Pt.slots] at X290 l290 y290 z290 st290 hQ290
      subst l290 y290 z290
      obtain ⟨rfl, N290q, hh290⟩ := hQ290
      have N290 := Fr.app N286 N290q
      have pre292 : ∀ t, Steps p.tables e below (T290.setTop (mkF m 348 #[iv p0, iv p1, iv p2, iv p3, iv p4, iv p5, iv va, iv vb, iv vc, iv (3 : Int32), iv (p4 &&& (7 : Int32)), iv off, rv b204, iv (0 : Int32), iv (0 : Int32), iv (0 : Int32), iv (0 : Int32), iv vt, .unset] [(.int (-1 : Int32)), (.int (own_ix0 vb va vb vc (0 : Int32)))])) t → Steps p.tables e below (s₁.setTop (entryFrame m #[(.int p0), (.int p1), (.int p2), (.int p3), (.int p4), (.int p5)] maxLocals)) t := by
        intro t kt
        refine pre289 _ ?_
        show Steps p.tables e below (T286.setTop (mkF m 335 #[iv p0, iv p1, iv p2, iv p3, iv p4, iv p5, iv va, iv vb, iv vc, iv (3 : Int32), iv (p4 &&& (7 : Int32)), iv off, rv b204, iv (0 : Int32), iv (0 : Int32), iv (0 : Int32), iv (0 : Int32), iv vt, .unset] [(.int (vt - vb)), (.int vt), (.ref b204)])) _
        refine st290.trans ?_
        show Steps p.tables e below (T290.setTop (mkF m 338 #[iv p0, iv p1, iv p2, iv p3, iv p4, iv p5, iv va, iv vb, iv vc, iv (3 : Int32), iv (p4 &&& (7 : Int32)), iv off, rv b204, iv (0 : Int32), iv (0 : Int32), iv (0 : Int32), iv (0 : Int32), iv vt, .unset] [(.int (own_ix0 vb va vb vc (0 : Int32)))])) _
        refine XS.iload X290.here hx rfl (hb hby at_338) rfl ?_
        refine XS.ifYes X290.here hx rfl (pc0 := 340) (pc' := 347) rfl (hb hby at_340) rfl ((if0 _ _).trans (teq (by decide)).1) (by decide) (by decide) ?_
        refine XS.iconst X290.here hx rfl (hb hby at_347) ?_
        exact kt
      have hc348_291 : (own_ix0 vb va vb vc (0 : Int32)) = (-1 : Int32) := by simp +decide [own_ix0, own_bs0, hab, hbc, hac, nba, ncb, nca, Int32.lt_irrefl]
      have pre293 : ∀ t, Steps p.tables e below (T290.setTop (mkF m 360 #[iv p0, iv p1, iv p2, iv p3, iv p4, iv p5, iv va, iv vb, iv vc, iv (3 : Int32), iv (p4 &&& (7 : Int32)), iv off, rv b204, iv (0 : Int32), iv (0 : Int32), iv (0 : Int32), iv (0 : Int32), iv vt, .unset] [(.int (vt - vc)), (.int vt), (.ref b204)])) t → Steps p.tables e below (s₁.setTop (entryFrame m #[(.int p0), (.int p1), (.int p2), (.int p3), (.int p4), (.int p5)] maxLocals)) t := by
        intro t kt
        refine pre292 _ ?_
        show Steps p.tables e below (T290.setTop (mkF m 348 #[iv p0, iv p1, iv p2, iv p3, iv p4, iv p5, iv va, iv vb, iv vc, iv (3 : Int32), iv (p4 &&& (7 : Int32)), iv off, rv b204, iv (0 : Int32), iv (0 : Int32), iv (0 : Int32), iv (0 : Int32), iv vt, .unset] [(.int (-1 : Int32)), (.int (own_ix0 vb va vb vc (0 : Int32)))])) _
        refine XS.icmpNo X290.here hx rfl (hb hby at_348) rfl (teq hc348_291).2 ?_
        refine XS.aload X290.here hx rfl (hb hby at_351) rfl rfl ?_
        refine XS.iload X290.here hx rfl (hb hby at_353) rfl ?_
        refine XS.iload X290.here hx rfl (hb hby at_355) rfl ?_
        refine XS.iload X290.here hx rfl (hb hby at_357) rfl ?_
        refine XS.isub X290.here hx rfl (hb hby at_359) rfl ?_
        exact kt
      obtain ⟨cq294, kq294, q294a, q294b, q294c⟩ := isOf hZ hh290 (((((A204.keep Kc206).keep Kc208).keep Kc210).keep Kc212).keep Kc214)
      obtain ⟨_, _, ⟨T294, L294, k294, n294⟩, -, X294, ⟨Lc294, hQ294, l294, y294, z294⟩, st294⟩ := X290.virtualBack hx (y := (⟨"com/example/bytewright/bytewright/grid/ObjectStarts", "indexOf", "(II)I"⟩ : MethodName)) (z := (⟨"com/example/bytewright/bytewright/grid/ObjectStarts", "indexOf", "(II)I"⟩ : MethodName)) hown (mvT hZ (hw _ (List.mem_of_getElem? (i := 25) rfl))) (mvT hZ (hw _ (List.mem_of_getElem? (i := 26) rfl))) (notFace_of_selects (args := #[]) (mvT hZ (hw _ (List.mem_of_getElem? (i := 28) rfl)))) (mvT hZ (hw _ (List.mem_of_getElem? (i := 28) rfl))) (mvT hZ (hw _ (List.mem_of_getElem? (i := 27) rfl))) (by decide) (backOf (W := 0) (rm5c0 l Z a0 hw [] b204 vt (vt - vc) ab206 kb206 va vb vc (0 : Int32) vc T214.heap n0 (Nat.le_trans Z0 K214.1) Fo214 Fn214 (((((A204.keep Kc206).keep Kc208).keep Kc210).keep Kc212).keep Kc214) Va214 hne206 (own_key vt vc (by have := own_next vc vt h_vt (by omega); omega)).1 (own_key vt vc (by have := own_next vc vt h_vt (by omega); omega)).2.1 (own_key vt vc (by have := own_next vc vt h_vt (by omega); omega)).2.2) hZ (hw _ (List.mem_of_getElem? (i := 29) rfl)) (hw _ (List.mem_of_getElem? (i := 3) rfl)) (by decide) (by decide)) q294a q294c (g := (mkF m 360 #[iv p0, iv p1, iv p2, iv p3, iv p4, iv p5, iv va, iv vb, iv vc, iv (3 : Int32), iv (p4 &&& (7 : Int32)), iv off, rv b204, iv (0 : Int32), iv (0 : Int32), iv (0 : Int32), iv (0 : Int32), iv vt, .unset] [(.int (vt - vc)), (.int vt), (.ref b204)])) rfl (by rw [hml]; rfl) (Steps.refl _) (argsL := [(.int vt), (.int (vt - vc))]) (rest := []) (lenOf pd7 rfl) rfl (by show 2 * 0 + _ ≤ _; exact Nat.le_of_eq rfl) (hb hby at_360) (fun _ _ => ⟨rfl, hh290, (by decide : 2 + 0 ≤ _), (by decide : 18 + 0 ≤ _)⟩)
      dsimp only [Pt.U, Pt.locs, Pt.cells, Pt.slots] at X294 l294 y294 z294 st294 hQ294
      subst l294 y294 z294
      obtain ⟨rfl, N294q, hh294⟩ := hQ294
      have N294 := Fr.app N290 N294q
      have pre296 : ∀ t, Steps p.tables e below (T294.setTop (mkF m 373 #[iv p0, iv p1, iv p2, iv p3, iv p4, iv p5, iv va, iv vb, iv vc, iv (3 : Int32), iv (p4 &&& (7 : Int32)), iv off, rv b204, iv (0 : Int32), iv (0 : Int32), iv (0 : Int32), iv (0 : Int32), iv vt, .unset] [(.int (-1 : Int32)), (.int (own_ix0 vc va vb vc (0 : Int32)))])) t → Steps p.tables e below (s₁.setTop (entryFrame m #[(.int p0), (.int p1), (.int p2), (.int p3), (.int p4), (.int p5)] maxLocals)) t := by
        intro t kt
        refine pre293 _ ?_
        show Steps p.tables e below (T290.setTop (mkF m 360 #[iv p0, iv p1, iv p2, iv p3, iv p4, iv p5, iv va, iv vb, iv vc, iv (3 : Int32), iv (p4 &&& (7 : Int32)), iv off, rv b204, iv (0 : Int32), iv (0 : Int32), iv (0 : Int32), iv (0 : Int32), iv vt, .unset] [(.int (vt - vc)), (.int vt), (.ref b204)])) _
        refine st294.trans ?_
        show Steps p.tables e below (T294.setTop (mkF m 363 #[iv p0, iv p1, iv p2, iv p3, iv p4, iv p5, iv va, iv vb, iv vc, iv (3 : Int32), iv (p4 &&& (7 : Int32)), iv off, rv b204, iv (0 : Int32), iv (0 : Int32), iv (0 : Int32), iv (0 : Int32), iv vt, .unset] [(.int (own_ix0 vc va vb vc (0 : Int32)))])) _
        refine XS.iload X294.here hx rfl (hb hby at_363) rfl ?_
        refine XS.ifYes X294.here hx rfl (pc0 := 365) (pc' := 372) rfl (hb hby at_365) rfl ((if0 _ _).trans (teq (by decide)).1) (by decide) (by decide) ?_
        refine XS.iconst X294.here hx rfl (hb hby at_372) ?_
        exact kt
      have hc373_295 : (own_ix0 vc va vb vc (0 : Int32)) = (-1 : Int32) := by simp +decide [own_ix0, own_bs0, hab, hbc, hac, nba, ncb, nca, Int32.lt_irrefl]
      have pre297 : ∀ t, Steps p.tables e below (T294.setTop (mkF m 392 #[iv p0, iv p1, iv p2, iv p3, iv p4, iv p5, iv va, iv vb, iv vc, iv (3 : Int32), iv (p4 &&& (7 : Int32)), iv off, rv b204, iv (0 : Int32), iv (0 : Int32), iv (0 : Int32), iv (0 : Int32), iv vt, iv (1 : Int32)] [(.int vt), (.ref b204)])) t → Steps p.tables e below (s₁.setTop (entryFrame m #[(.int p0), (.int p1), (.int p2), (.int p3), (.int p4), (.int p5)] maxLocals)) t := by
        intro t kt
        refine pre296 _ ?_
        show Steps p.tables e below (T294.setTop (mkF m 373 #[iv p0, iv p1, iv p2, iv p3, iv p4, iv p5, iv va, iv vb, iv vc, iv (3 : Int32), iv (p4 &&& (7 : Int32)), iv off, rv b204, iv (0 : Int32), iv (0 : Int32), iv (0 : Int32), iv (0 : Int32), iv vt, .unset] [(.int (-1 : Int32)), (.int (own_ix0 vc va vb vc (0 : Int32)))])) _
        refine XS.icmpNo X294.here hx rfl (hb hby at_373) rfl (teq hc373_295).2 ?_
        refine XS.iconst X294.here hx rfl (hb hby at_376) ?_
        refine XS.goto X294.here hx rfl (pc0 := 377) (pc' := 381) rfl (hb hby at_377) (by decide) (by decide) ?_
        refine XS.istore X294.here hx rfl (hb hby at_381) rfl (l' := #[iv p0, iv p1, iv p2, iv p3, iv p4, iv p5, iv va, iv vb, iv vc, iv (3 : Int32), iv (p4 &&& (7 : Int32)), iv off, rv b204, iv (0 : Int32), iv (0 : Int32), iv (0 : Int32), iv (0 : Int32), iv vt, iv (1 : Int32)]) rfl ?_
        refine XS.iload X294.here hx rfl (hb hby at_383) rfl ?_
        refine XS.ifNo X294.here hx rfl (hb hby at_385) rfl ((if0 _ _).trans (feq (by decide)).1) ?_
        refine XS.aload X294.here hx rfl (hb hby at_388) rfl rfl ?_
        refine XS.iload X294.here hx rfl (hb hby at_390) rfl ?_
        exact kt
      obtain ⟨cq298, kq298, q298a, q298b, q298c⟩ := isOf hZ hh294 (((((A204.keep Kc206).keep Kc208).keep Kc210).keep Kc212).keep Kc214)
      obtain ⟨_, _, ⟨T298, L298, k298, n298⟩, -, X298, ⟨Lc298, hQ298, l298, y298, z298⟩, st298⟩ := X294.virtualBack hx (y := (⟨"com/example/bytewright/bytewright/grid/ObjectStarts", "add", "(I)I"⟩ : MethodName)) (z := (⟨"com/example/bytewright/bytewright/grid/ObjectStarts", "add", "(I)I"⟩ : MethodName)) hown (mvT hZ (hw _ (List.mem_of_getElem? (i := 13) rfl))) (mvT hZ (hw _ (List.mem_of_getElem? (i := 14) rfl))) (notFace_of_selects (args := #[]) (mvT hZ (hw _ (List.mem_of_getElem? (i := 16) rfl)))) (mvT hZ (hw _ (List.mem_of_getElem? (i := 16) rfl))) (mvT hZ (hw _ (List.mem_of_getElem? (i := 15) rfl))) (by decide) (backOf (W := 0) (rm3c0 l Z a0 hw [] b204 vt ab206 kb206 va vb vc (0 : Int32) T214.heap n0 (Nat.le_trans Z0 K214.1) Fo214 Fn214 (((((A204.keep Kc206).keep Kc208).keep Kc210).keep Kc212).keep Kc214) g_b204 Va214 g_ab206 hne206) hZ (hw _ (List.mem_of_getElem? (i := 17) rfl)) (hw _ (List.mem_of_getElem? (i := 3) rfl)) (by decide) (by decide)) q298a q298c (g := (mkF m 392 #[iv p0, iv p1, iv p2, iv p3, iv p4, iv p5, iv va, iv vb, iv vc, iv (3 : Int32), iv (p4 &&& (7 : Int32)), iv off, rv b204, iv (0 : Int32), iv (0 : Int32), iv (0 : Int32), iv (0 : Int32), iv vt, iv (1 : Int32)] [(.int vt), (.ref b204)])) rfl (by rw [hml]; rfl) (Steps.refl _) (argsL := [(.int vt)]) (rest := []) (lenOf pd8 rfl) rfl (by show 2 * 0 + _ ≤ _; exact Nat.le_of_eq rfl) (hb hby at_392) (fun _ _ => ⟨rfl, hh294, (by decide : 2 + 0 ≤ _), (by decide : 18 + 0 ≤ _)⟩)
      dsimp only [Pt.U, Pt.locs, Pt.cells, Pt.slots] at X298 l298 y298 z298 st298 hQ298
      subst l298 y298 z298
      obtain ⟨rfl, N298q, Kc298, Fo298, Fn298, Va298⟩ := hQ298
      have N298 := Fr.app N294 N298q
      have K298 : Keep h0 T298.heap [] := K214.trans Kc298 (allS (Or.inr sz_b204) (allS (Or.inr sz_ab206) all0))
      have pre299 : ∀ t, Steps p.tables e below (T298.setTop (mkF m 405 #[iv p0, iv p1, iv p2, iv p3, iv p4, iv p5, iv va, iv vb, iv vc, iv (3 : Int32), iv (p4 &&& (7 : Int32)), iv off, rv b204, iv (0 : Int32), iv (0 : Int32), iv (0 : Int32), iv (0 : Int32), iv vt, iv (1 : Int32)] [(.int (1 : Int32))])) t → Steps p.tables e below (s₁.setTop (entryFrame m #[(.int p0), (.int p1), (.int p2), (.int p3), (.int p4), (.int p5)] maxLocals)) t := by
        intro t kt
        refine pre297 _ ?_
        show Steps p.tables e below (T294.setTop (mkF m 392 #[iv p0, iv p1, iv p2, iv p3, iv p4, iv p5, iv va, iv vb, iv vc, iv (3 : Int32), iv (p4 &&& (7 : Int32)), iv off, rv b204, iv (0 : Int32), iv (0 : Int32), iv (0 : Int32), iv (0 : Int32), iv vt, iv (1 : Int32)] [(.int vt), (.ref b204)])) _
        refine st298.trans ?_
        show Steps p.tables e below (T298.setTop (mkF m 395 #[iv p0, iv p1, iv p2, iv p3, iv p4, iv p5, iv va, iv vb, iv vc, iv (3 : Int32), iv (p4 &&& (7 : Int32)), iv off, rv b204, iv (0 : Int32), iv (0 : Int32), iv (0 : Int32), iv (0 : Int32), iv vt, iv (1 : Int32)] [(.int (0 : Int32))])) _
        refine XS.iload X298.here hx rfl (hb hby at_395) rfl ?_
        refine XS.icmpNo X298.here hx rfl (hb hby at_397) rfl (teq (by decide)).2 ?_
        refine XS.iconst X298.here hx rfl (hb hby at_400) ?_
        refine XS.goto X298.here hx rfl (pc0 := 401) (pc' := 405) rfl (hb hby at_401) (by decide) (by decide) ?_
        exact kt
      obtain ⟨fs, hr, hrun, hended, hW, hsame⟩ := X298.leave (v := some (.int (1 : Int32))) (fun h => by rw [Bd.returns] at h; cases h)
      refine ⟨_, _, pre299 _ ?_, hrun, hended, _, _, rfl, ?_, ⟨_, rfl⟩, hW, hsame.mono (by decide) (by decide)⟩
      · show Steps p.tables e below (T298.setTop (mkF m 405 #[iv p0, iv p1, iv p2, iv p3, iv p4, iv p5, iv va, iv vb, iv vc, iv (3 : Int32), iv (p4 &&& (7 : Int32)), iv off, rv b204, iv (0 : Int32), iv (0 : Int32), iv (0 : Int32), iv (0 : Int32), iv vt, iv (1 : Int32)] [(.int (1 : Int32))])) _
        exact retN X298 hx (t := .boolean) Bd.returns (by simp) (hb hby at_405) hr
      · show Q0 Z p0 p1 p2 p3 p4 p5 h0 n0 _ T298.heap _
        exact ⟨rfl, N298⟩
set_option maxRecDepth 65536 in
set_option maxHeartbeats 40000000 in
theorem comes_1 {Post : Tables → Env → Array Value → State → Outcome → State → Prop} (hpost : ∀ tb e args s v u, (limb_1_1.after args s (.returned v) u = true ∧ limb_1_2.after args s (.returned v) u = true ∧ True) → FrameEnd s (.returned v) u (Jvm.fieldLocs frame_1_writes args s ++ Jvm.arrayLocs frame_1_arrays args s ++ Jvm.staticLocs frame_1_statics s) 16 128 → Post tb e args s (.returned v) u) :
    ArmFor flags0 classFile x code maxLocals ret World_1 tables_1 room_1 Calls_1 rest_1 Pre_1 Post := by
  intro l hfl _ _ p e ha hc hk s m args below hf hA hF happ hP
  obtain ⟨hcalls, hrest, hpre⟩ := hP
  obtain ⟨-, -, -, hnamed, -, -, -, hat⟩ := (Spec.applies_iff hf).mp happ
  obtain ⟨hg, hn⟩ := and_e (Cond.before_iff.mp (show (Jvm.Cond.and given_1 narrow_1).before args s = true from hpre))
  obtain ⟨gg1, gg2⟩ := and_e hg
  obtain ⟨gg3, gg4⟩ := and_e gg2
  obtain ⟨gg5, gg6⟩ := and_e gg4
  obtain ⟨gg7, gg8⟩ := and_e gg6
  obtain ⟨gg9, gg10⟩ := and_e gg8
  obtain ⟨gg11, gg12⟩ := and_e gg10
  obtain ⟨w0, w1, w2, w3, w4, w5, rfl⟩ : ∃ w0 w1 w2 w3 w4 w5 : Value, args = #[w0, w1, w2, w3, w4, w5] := by
    have hs : args.size = 6 := by simpa [Cond.value, given_1] using gg1
    obtain ⟨L⟩ := args
    match L, hs with
    | [w0, w1, w2, w3, w4, w5], _ => exact ⟨w0, w1, w2, w3, w4, w5, rfl⟩
  have hw := fun d (hd : d ∈ tables_1) => atoms_spec (ws := Jvm.Cond.code x code maxLocals ret :: tables_1) hat d (List.mem_cons_of_mem _ hd)
  have hfit : Fit s := fun {y c} hc i hi => by
    obtain ⟨ha, rfl⟩ := Array.getElem?_eq_some_iff.mp hc
    have q := List.all_eq_true.mp ((Array.all_eq_true_iff_forall_mem.mp hF) _ (Array.getElem_mem ha)) i (List.mem_range.mpr hi)
    simpa [Array.getElem?_eq_getElem hi] using q
  obtain ⟨i0, ei0⟩ := is_v gg3
  obtain rfl : w0 = (.int i0) := Option.some.inj ei0
  obtain ⟨i1, ei1⟩ := is_v gg5
  obtain rfl : w1 = (.int i1) := Option.some.inj ei1
  obtain ⟨i2, ei2⟩ := is_v gg7
  obtain rfl : w2 = (.int i2) := Option.some.inj ei2
  obtain ⟨i3, ei3⟩ := is_v gg9
  obtain rfl : w3 = (.int i3) := Option.some.inj ei3
  obtain ⟨i4, ei4⟩ := is_v gg11
  obtain rfl : w4 = (.int i4) := Option.some.inj ei4
  obtain ⟨i5, ei5⟩ := is_v gg12
  obtain rfl : w5 = (.int i5) := Option.some.inj ei5
  obtain ⟨n, o, h1, h2, h3, _, L, rfl, ⟨rfl, N⟩, hq⟩ := rm0 l s _ hw tables_1 i0 i1 i2 i3 i4 i5 s.heap s.heap.size (Nat.le_refl _) p e ha hc hk s m _ below hf ((Spec.applies_iff_loose hf).mp happ).1 ⟨rfl, State.Warmed39.refl s, rfl⟩ trivial
  refine ⟨n, _, h1, h2, h3, hpost _ _ _ _ _ _ ⟨Cond.after_iff.mpr rfl, Cond.after_iff.mpr (eq_i res_at (Term.int_eval (1)) rfl), trivial⟩ ⟨hq.1, hq.2.1, (hq.2.2.sift fun y hy => Or.inr (N y hy)).mono (by decide) (by decide)⟩⟩
theorem main_1_1 : Claimed_1_1 := comes_1 fun _ _ _ _ _ _ h hF => ⟨h.1, hF⟩
theorem main_1_2 : Claimed_1_2 := comes_1 fun _ _ _ _ _ _ h hF => ⟨h.2.1, hF⟩
end Jvm.Pilot.@@N@@
namespace Jvm.Pilot.@@N@@
open Jvm Jvm.ClassFile Sem Op Lib Jvm.Free Jvm.Stand Jvm.Pilot.@@N@@.Jvm.D
/-! MADE BY PROGRAM (witnessworld.py) out of the Statement's table words and the real class files: 10 classes; the members and pool entries that the words name. The judged class is class 1, her method 1. -/
namespace start1
open Jvm.ClassFile
def u (s : String) : CpInfo := .utf8 (stringToUtf16 s)
/-- a pool by its gaps: so many unusable entries, then the entry; so many at the end -/
def gap : Nat → List CpInfo → List CpInfo
  | 0, r => r
  | n + 1, r => .unusable :: gap n r
def poolList (es : List (Nat × CpInfo)) (last : Nat) : List CpInfo := es.foldr (fun e r => gap e.1 (e.2 :: r)) (gap last [])
def pool (es : List (Nat × CpInfo)) (last : Nat) : Array CpInfo := ⟨poolList es last⟩
def fileOf (pool : Array CpInfo) (this : Nat) (attrs : Array Attribute := #[]) (ms : Array MethodInfo := #[]) (fl : Nat := 33) (sup : Nat := 0) (ifs : Array Nat := #[]) (fds : Array FieldInfo := #[]) : ClassFile where
  minorVersion := 0
  majorVersion := 65
  constantPool := pool
  accessFlags := fl
  thisClass := this
  superClass := sup
  interfaces := ifs
  fields := fds
  methods := ms
  attributes := attrs
def plain (name : String) (sup : Option ClassId) : Class where
  name := name
  kind := .ordinary
  loader := none
  accessFlags := 33
  super := sup
  interfaces := #[]
  cf := none
  fields := #[]
  methods := #[]
  instanceTypes := #[]
  staticTypes := #[]
  resolved := #[]
  callSites := []
  init := .initialized
  statics := none
  mirror := none

def pool0 : Array CpInfo := pool [(5, u "<init>"), (0, u "()V"), (1, .class_ 10), (1, u "java/lang/Object")] 113

def k0c0 : Code := { maxStack := 0, maxLocals := 1, code := object_method_1_code, exceptionTable := #[], attributes := #[] }
def k0m0 : Method := { name := "<init>", desc := "()V", sig := { parameters := [], returnType := none }, accessFlags := 1, code := some k0c0 }
/-- java/lang/Object -/
def k0 : Class := { plain "java/lang/Object" none with
  accessFlags := 33
  interfaces := #[]
  cf := some (fileOf pool0 8 #[] #[{ accessFlags := 1, nameIndex := 5, descriptorIndex := 6, attributes := #[] }] 33 0 #[] #[])
  fields := #[]
  methods := #[k0m0]
  instanceTypes := #[]
  staticTypes := #[]
  resolved := Array.replicate 124 none
  statics := none }

def pool1 : Array CpInfo := pool [(2, .class_ 4), (0, .nameAndType 5 6), (0, u "java/lang/Object"), (0, u "<init>"), (0, u "()V"), (0, .integer 536870911), (0, .class_ 9), (0, u "com/example/bytewright/bytewright/grid/ObjectStarts"), (0, .methodref 8 3), (0, .methodref 8 12), (0, .nameAndType 13 14), (0, u "add"), (0, u "(I)I"), (0, .methodref 8 16), (0, .nameAndType 17 18), (0, u "forgetFrom"), (0, u "(I)V"), (0, .methodref 8 20), (0, .nameAndType 21 22), (0, u "indexOf"), (0, u "(II)I"), (0, .class_ 24), (0, u "com/example/bytewright/bytewright/grid/ObjectStartsForgetFromPinLaw"), (2, u "law"), (0, u "(IIIIII)Z")] 3

def k1m0 : Method := { name := "<init>", desc := "()V", sig := { parameters := [], returnType := none }, accessFlags := 1, code := none }
def k1c1 : Code := { maxStack := 4, maxLocals := 19, code := code, exceptionTable := #[], attributes := #[] }
def k1m1 : Method := { name := "law", desc := "(IIIIII)Z", sig := { parameters := [.int, .int, .int, .int, .int, .int], returnType := some .boolean }, accessFlags := 9, code := some k1c1 }
/-- com/example/bytewright/bytewright/grid/ObjectStartsForgetFromPinLaw -/
def k1 : Class := { plain "com/example/bytewright/bytewright/grid/ObjectStartsForgetFromPinLaw" (some 0) with
  accessFlags := 49
  interfaces := #[]
  cf := some (fileOf pool1 23 #[] #[{ accessFlags := 1, nameIndex := 5, descriptorIndex := 6, attributes := #[] }, { accessFlags := 9, nameIndex := 27, descriptorIndex := 28, attributes := #[] }] 49 2 #[] #[])
  fields := #[]
  methods := #[k1m0, k1m1]
  instanceTypes := #[]
  staticTypes := #[]
  resolved := Array.replicate 32 none
  statics := none }

def pool2 : Array CpInfo := pool [(1, .methodref 2 3), (0, .class_ 4), (0, .nameAndType 5 6), (0, u "java/lang/Object"), (0, u "<init>"), (0, u "()V"), (0, .fieldref 8 9), (0, .class_ 10), (0, .nameAndType 11 12), (0, u "com/example/bytewright/bytewright/grid/ObjectStarts"), (0, u "offsets"), (0, u "[I"), (0, .fieldref 8 14), (0, .nameAndType 15 16), (0, u "count"), (0, u "I"), (10, .class_ 29), (1, u "java/util/Arrays"), (4, u "indexOf"), (0, u "(II)I"), (0, .methodref 27 37), (0, .nameAndType 38 39), (0, u "binarySearch"), (0, u "([IIII)I"), (27, u "add"), (0, u "(I)I"), (1, u "forgetFrom"), (0, u "(I)V")] 20

def k2c0 : Code := { maxStack := 2, maxLocals := 1, code := prog_53_method_1_code, exceptionTable := #[], attributes := #[] }
def k2m0 : Method := { name := "<init>", desc := "()V", sig := { parameters := [], returnType := none }, accessFlags := 0, code := some k2c0 }
def k2c1 : Code := { maxStack := 6, maxLocals := 2, code := prog_53_method_2_code, exceptionTable := #[], attributes := #[] }
def k2m1 : Method := { name := "add", desc := "(I)I", sig := { parameters := [.int], returnType := some .int }, accessFlags := 0, code := some k2c1 }
def k2c2 : Code := { maxStack := 3, maxLocals := 2, code := prog_53_method_3_code, exceptionTable := #[], attributes := #[] }
def k2m2 : Method := { name := "forgetFrom", desc := "(I)V", sig := { parameters := [.int], returnType := none }, accessFlags := 0, code := some k2c2 }
def k2c3 : Code := { maxStack := 5, maxLocals := 6, code := prog_53_method_5_code, exceptionTable := #[], attributes := #[] }
def k2m3 : Method := { name := "indexOf", desc := "(II)I", sig := { parameters := [.int, .int], returnType := some .int }, accessFlags := 0, code := some k2c3 }
/-- com/example/bytewright/bytewright/grid/ObjectStarts -/
def k2 : Class := { plain "com/example/bytewright/bytewright/grid/ObjectStarts" (some 0) with
  accessFlags := 48
  interfaces := #[]
  cf := some (fileOf pool2 8 #[] #[{ accessFlags := 0, nameIndex := 5, descriptorIndex := 6, attributes := #[] }, { accessFlags := 0, nameIndex := 67, descriptorIndex := 68, attributes := #[] }, { accessFlags := 0, nameIndex := 70, descriptorIndex := 71, attributes := #[] }, { accessFlags := 0, nameIndex := 34, descriptorIndex := 35, attributes := #[] }] 48 2 #[] #[{ accessFlags := 2, nameIndex := 11, descriptorIndex := 12, attributes := #[] }, { accessFlags := 2, nameIndex := 15, descriptorIndex := 16, attributes := #[] }])
  fields := #[{ name := "offsets", type := (.array .int), accessFlags := 2, slot := 0, constantValue := 0 }, { name := "count", type := .int, accessFlags := 2, slot := 1, constantValue := 0 }]
  methods := #[k2m0, k2m1, k2m2, k2m3]
  instanceTypes := #[(.array .int), .int]
  staticTypes := #[]
  resolved := Array.replicate 92 none
  statics := none }

def pool3 : Array CpInfo := pool [(2, .class_ 4), (1, u "java/lang/Object"), (0, u "<init>"), (0, u "()V"), (6, .methodref 14 15), (0, .class_ 16), (0, .nameAndType 17 18), (0, u "java/util/Arrays"), (0, u "rangeCheck"), (0, u "(III)V"), (55, .class_ 76), (1, u "java/util/Arrays$NaturalOrder"), (36, .class_ 115), (1, u "java/util/Arrays$LegacyMergeSort"), (1, u "Z"), (89, u "binarySearch0"), (1, .methodref 14 210), (0, .nameAndType 207 211), (0, u "([IIII)I"), (163, .class_ 376), (0, u "java/util/Arrays$ArrayList"), (68, u "$assertionsDisabled"), (269, u "MIN_ARRAY_SORT_GRAN"), (0, u "I"), (2, u "INSERTIONSORT_THRESHOLD"), (74, u "binarySearch"), (180, .class_ 976), (0, u "java/util/Arrays$ArrayItr")] 52

def k3m0 : Method := { name := "<init>", desc := "()V", sig := { parameters := [], returnType := none }, accessFlags := 2, code := none }
def k3c1 : Code := { maxStack := 4, maxLocals := 3, code := jdk_65_method_30_code, exceptionTable := #[], attributes := #[] }
def k3m1 : Method := { name := "rangeCheck", desc := "(III)V", sig := { parameters := [.int, .int, .int], returnType := none }, accessFlags := 8, code := some k3c1 }
def k3c2 : Code := { maxStack := 4, maxLocals := 4, code := jdk_65_method_58_code, exceptionTable := #[], attributes := #[] }
def k3m2 : Method := { name := "binarySearch", desc := "([IIII)I", sig := { parameters := [(.array .int), .int, .int, .int], returnType := some .int }, accessFlags := 9, code := some k3c2 }
def k3c3 : Code := { maxStack := 2, maxLocals := 8, code := jdk_65_method_59_code, exceptionTable := #[], attributes := #[] }
def k3m3 : Method := { name := "binarySearch0", desc := "([IIII)I", sig := { parameters := [(.array .int), .int, .int, .int], returnType := some .int }, accessFlags := 10, code := some k3c3 }
/-- java/util/Arrays -/
def k3 : Class := { plain "java/util/Arrays" (some 0) with
  accessFlags := 49
  interfaces := #[]
  cf := some (fileOf pool3 14 #[.nestMembers #[975, 375, 113, 74]] #[{ accessFlags := 2, nameIndex := 5, descriptorIndex := 6, attributes := #[] }, { accessFlags := 8, nameIndex := 17, descriptorIndex := 18, attributes := #[] }, { accessFlags := 9, nameIndex := 794, descriptorIndex := 211, attributes := #[] }, { accessFlags := 10, nameIndex := 207, descriptorIndex := 211, attributes := #[] }] 49 2 #[] #[{ accessFlags := 26, nameIndex := 715, descriptorIndex := 716, attributes := #[] }, { accessFlags := 26, nameIndex := 719, descriptorIndex := 716, attributes := #[] }, { accessFlags := 4120, nameIndex := 445, descriptorIndex := 117, attributes := #[] }])
  fields := #[{ name := "MIN_ARRAY_SORT_GRAN", type := .int, accessFlags := 26, slot := 0, constantValue := 0 }, { name := "INSERTIONSORT_THRESHOLD", type := .int, accessFlags := 26, slot := 1, constantValue := 0 }, { name := "$assertionsDisabled", type := .boolean, accessFlags := 4120, slot := 2, constantValue := 0 }]
  methods := #[k3m0, k3m1, k3m2, k3m3]
  instanceTypes := #[]
  staticTypes := #[.int, .int, .boolean]
  resolved := Array.replicate 1029 none
  statics := none }

def pool4 : Array CpInfo := pool [(1, u "java/lang/Cloneable"), (0, .class_ 1), (0, u "java/lang/Object"), (0, .class_ 3)] 3

/-- java/lang/Cloneable -/
def k4 : Class := { plain "java/lang/Cloneable" (some 0) with
  accessFlags := 1537
  interfaces := #[]
  cf := some (fileOf pool4 2 #[] #[] 1537 4 #[] #[])
  fields := #[]
  methods := #[]
  instanceTypes := #[]
  staticTypes := #[]
  resolved := Array.replicate 8 none
  statics := none }

def pool5 : Array CpInfo := pool [(1, u "java/io/Serializable"), (0, .class_ 1), (0, u "java/lang/Object"), (0, .class_ 3)] 3

/-- java/io/Serializable -/
def k5 : Class := { plain "java/io/Serializable" (some 0) with
  accessFlags := 1537
  interfaces := #[]
  cf := some (fileOf pool5 2 #[] #[] 1537 4 #[] #[])
  fields := #[]
  methods := #[]
  instanceTypes := #[]
  staticTypes := #[]
  resolved := Array.replicate 8 none
  statics := none }

/-- the primitive byte -/
def k6 : Class := { plain "byte" none with kind := .primitive 'B', accessFlags := 0x411 }
/-- [B -/
def k7 : Class := { plain "[B" (some 0) with kind := .array 6 .byte, interfaces := #[4, 5], accessFlags := 1041 }

/-- the primitive int -/
def k8 : Class := { plain "int" none with kind := .primitive 'I', accessFlags := 0x411 }
/-- [I -/
def k9 : Class := { plain "[I" (some 0) with kind := .array 8 .int, interfaces := #[4, 5], accessFlags := 1041 }

def heap : Heap := #[]
def classes : Array Class := #[k0, k1, k2, k3, k4, k5, k6, k7, k8, k9]
def interned : List (Array UInt16 × Addr) := []
def slotsUsed : Nat := 0
def theMethod : MethodId := ⟨1, 1⟩
def args0 : Array Value := #[.int 5, .int 6, .int 7, .int 8, .int 3, .int 2]
def aboutOver (below : List Frame) : State where
  vm := { classes := classes, interned := interned.toArray }
  heap := heap
  slotsUsed := slotsUsed
  threads := #[{ frames := .invoking theMethod args0 :: below }]
def below0 : List Frame := [.native { method := ⟨0, 0⟩, args := #[] }]
def about1 : State := aboutOver below0
def p0 : Program := .bare "" "" ""
def e0 : Env := launch0.env 0 0 0
theorem w_frames : about1.frames = Frame.invoking theMethod args0 :: below0 := rfl
set_option maxRecDepth 65536 in
theorem w_args : argsFit about1.vm theMethod args0 = true := by decide +kernel
set_option maxRecDepth 65536 in
theorem w_heap : heapFits about1 = true := by decide +kernel
set_option maxRecDepth 65536 in
theorem w_runnable : about1.curStatus? = some .runnable := by decide +kernel
set_option maxRecDepth 65536 in
theorem w_alone : about1.alone = true := by decide +kernel
set_option maxRecDepth 65536 in
theorem w_named : about1.methodNamed? x = some theMethod := by decide +kernel
set_option maxRecDepth 65536 in
theorem w_hears : about1.hears theMethod below0 = true := by decide +kernel
set_option maxRecDepth 65536 in
theorem w_ripe : about1.ripe theMethod args0 below0 = true := by decide +kernel
theorem w_running : about1.status = .running := rfl
set_option maxRecDepth 65536 in
theorem w_room : about1.hasRoom e0.platform room_1 = true :=
  launch0.hasRoom_least _ room_1 (by decide +kernel) (by decide +kernel) (by decide +kernel) (by decide +kernel) (by decide +kernel) (by decide +kernel)
theorem allAtoms_all (ts : List Jvm.Cond) (a : Array Jvm.Value) (st : Jvm.State) : (allAtoms ts).before a st = ts.all (fun c => c.before a st) := by
  induction ts with
  | nil => rfl
  | cons c t ih =>
    show (Jvm.Cond.and c (allAtoms t)).before a st = _
    rw [Jvm.Cond.before_and, ih, List.all_cons]
def words1 : List Jvm.Cond := Jvm.Cond.code x code maxLocals ret :: tables_1
/-- a 'code' word, met by the world's own term for the bytes: nothing is compared byte by byte -/
theorem code_word {y : MethodName} {bytes : ByteArray} {mx : Nat} {rt : Option FieldType} {a : Array Value} {s : State} {m : MethodId} {meth : Method} {c : Code} (h1 : s.methodNamed? y = some m) (h2 : s.vm.method? m = some meth) (h3 : meth.code = some c) (h4 : c.code = bytes)
    (h5 : (c.maxLocals == mx && c.exceptionTable.isEmpty && decide (c.maxStack ≤ mostOperands) && decide (meth.sig.returnType = rt) && !meth.locks && decide (parseMethodDescriptor y.desc = some meth.sig)) = true) : (Jvm.Cond.code y bytes mx rt).before a s = true := by
  simp only [Bool.and_eq_true, beq_iff_eq, Bool.not_eq_true', decide_eq_true_eq] at h5
  obtain ⟨⟨⟨⟨⟨g1, g2⟩, g3⟩, g4⟩, g5⟩, g6⟩ := h5
  simp [Cond.before, Cond.holds, Cond.value, h1, h2, h3, h4, g1, g2, g3, g4, g5, g6]
def isCode : Jvm.Cond → Bool
  | .code _ _ _ _ => true
  | _ => false
theorem all_split {L : List Jvm.Cond} {P : Jvm.Cond → Bool} (h1 : L.all (fun c => isCode c || P c) = true) (h2 : ∀ c ∈ L.filter isCode, P c = true) : L.all P = true := by
  refine List.all_eq_true.mpr fun c hc => ?_
  have h := List.all_eq_true.mp h1 c hc
  rcases Bool.eq_false_or_eq_true (isCode c) with hi | hi
  · exact h2 c (List.mem_filter.mpr ⟨hc, hi⟩)
  · simpa [hi] using h
set_option maxRecDepth 65536 in
theorem w_c0 : (Jvm.Cond.code x code maxLocals ret).before args0 about1 = true := code_word (m := ⟨1, 1⟩) (meth := k1m1) (c := k1c1) (by decide +kernel) rfl rfl rfl (by decide +kernel)
set_option maxRecDepth 65536 in
theorem w_c1 : (Jvm.Cond.code ({ cls := "com/example/bytewright/bytewright/grid/ObjectStarts", name := "<init>", desc := "()V" } : Jvm.MethodName) prog_53_method_1_code (1 : Nat) (Option.none : Option Jvm.ClassFile.FieldType)).before args0 about1 = true := code_word (m := ⟨2, 0⟩) (meth := k2m0) (c := k2c0) (by decide +kernel) rfl rfl rfl (by decide +kernel)
set_option maxRecDepth 65536 in
theorem w_c2 : (Jvm.Cond.code ({ cls := "java/lang/Object", name := "<init>", desc := "()V" } : Jvm.MethodName) object_method_1_code (1 : Nat) (Option.none : Option Jvm.ClassFile.FieldType)).before args0 about1 = true := code_word (m := ⟨0, 0⟩) (meth := k0m0) (c := k0c0) (by decide +kernel) rfl rfl rfl (by decide +kernel)
set_option maxRecDepth 65536 in
theorem w_c3 : (Jvm.Cond.code ({ cls := "com/example/bytewright/bytewright/grid/ObjectStarts", name := "add", desc := "(I)I" } : Jvm.MethodName) prog_53_method_2_code (2 : Nat) (Option.some Jvm.ClassFile.FieldType.int)).before args0 about1 = true := code_word (m := ⟨2, 1⟩) (meth := k2m1) (c := k2c1) (by decide +kernel) rfl rfl rfl (by decide +kernel)
set_option maxRecDepth 65536 in
theorem w_c4 : (Jvm.Cond.code ({ cls := "com/example/bytewright/bytewright/grid/ObjectStarts", name := "forgetFrom", desc := "(I)V" } : Jvm.MethodName) prog_53_method_3_code (2 : Nat) (Option.none : Option Jvm.ClassFile.FieldType)).before args0 about1 = true := code_word (m := ⟨2, 2⟩) (meth := k2m2) (c := k2c2) (by decide +kernel) rfl rfl rfl (by decide +kernel)
set_option maxRecDepth 65536 in
theorem w_c5 : (Jvm.Cond.code ({ cls := "com/example/bytewright/bytewright/grid/ObjectStarts", name := "indexOf", desc := "(II)I" } : Jvm.MethodName) prog_53_method_5_code (6 : Nat) (Option.some Jvm.ClassFile.FieldType.int)).before args0 about1 = true := code_word (m := ⟨2, 3⟩) (meth := k2m3) (c := k2c3) (by decide +kernel) rfl rfl rfl (by decide +kernel)
set_option maxRecDepth 65536 in
theorem w_c6 : (Jvm.Cond.code ({ cls := "java/util/Arrays", name := "binarySearch", desc := "([IIII)I" } : Jvm.MethodName) jdk_65_method_58_code (4 : Nat) (Option.some Jvm.ClassFile.FieldType.int)).before args0 about1 = true := code_word (m := ⟨3, 2⟩) (meth := k3m2) (c := k3c2) (by decide +kernel) rfl rfl rfl (by decide +kernel)
set_option maxRecDepth 65536 in
theorem w_c7 : (Jvm.Cond.code ({ cls := "java/util/Arrays", name := "rangeCheck", desc := "(III)V" } : Jvm.MethodName) jdk_65_method_30_code (3 : Nat) (Option.none : Option Jvm.ClassFile.FieldType)).before args0 about1 = true := code_word (m := ⟨3, 1⟩) (meth := k3m1) (c := k3c1) (by decide +kernel) rfl rfl rfl (by decide +kernel)
set_option maxRecDepth 65536 in
theorem w_c8 : (Jvm.Cond.code ({ cls := "java/util/Arrays", name := "binarySearch0", desc := "([IIII)I" } : Jvm.MethodName) jdk_65_method_59_code (8 : Nat) (Option.some Jvm.ClassFile.FieldType.int)).before args0 about1 = true := code_word (m := ⟨3, 3⟩) (meth := k3m3) (c := k3c3) (by decide +kernel) rfl rfl rfl (by decide +kernel)
def codes1 : List Jvm.Cond := [Jvm.Cond.code x code maxLocals ret, Jvm.Cond.code ({ cls := "com/example/bytewright/bytewright/grid/ObjectStarts", name := "<init>", desc := "()V" } : Jvm.MethodName) prog_53_method_1_code (1 : Nat) (Option.none : Option Jvm.ClassFile.FieldType), Jvm.Cond.code ({ cls := "java/lang/Object", name := "<init>", desc := "()V" } : Jvm.MethodName) object_method_1_code (1 : Nat) (Option.none : Option Jvm.ClassFile.FieldType), Jvm.Cond.code ({ cls := "com/example/bytewright/bytewright/grid/ObjectStarts", name := "add", desc := "(I)I" } : Jvm.MethodName) prog_53_method_2_code (2 : Nat) (Option.some Jvm.ClassFile.FieldType.int), Jvm.Cond.code ({ cls := "com/example/bytewright/bytewright/grid/ObjectStarts", name := "forgetFrom", desc := "(I)V" } : Jvm.MethodName) prog_53_method_3_code (2 : Nat) (Option.none : Option Jvm.ClassFile.FieldType), Jvm.Cond.code ({ cls := "com/example/bytewright/bytewright/grid/ObjectStarts", name := "indexOf", desc := "(II)I" } : Jvm.MethodName) prog_53_method_5_code (6 : Nat) (Option.some Jvm.ClassFile.FieldType.int), Jvm.Cond.code ({ cls := "java/util/Arrays", name := "binarySearch", desc := "([IIII)I" } : Jvm.MethodName) jdk_65_method_58_code (4 : Nat) (Option.some Jvm.ClassFile.FieldType.int), Jvm.Cond.code ({ cls := "java/util/Arrays", name := "rangeCheck", desc := "(III)V" } : Jvm.MethodName) jdk_65_method_30_code (3 : Nat) (Option.none : Option Jvm.ClassFile.FieldType), Jvm.Cond.code ({ cls := "java/util/Arrays", name := "binarySearch0", desc := "([IIII)I" } : Jvm.MethodName) jdk_65_method_59_code (8 : Nat) (Option.some Jvm.ClassFile.FieldType.int)]
set_option maxRecDepth 65536 in
theorem codes_eq : words1.filter isCode = codes1 := rfl
theorem w_codes : ∀ c ∈ words1.filter isCode, c.before args0 about1 = true := by
  rw [codes_eq]
  intro c hc
  simp only [codes1, List.mem_cons, List.not_mem_nil, or_false] at hc
  rcases hc with rfl | rfl | rfl | rfl | rfl | rfl | rfl | rfl | rfl
  · exact w_c0
  · exact w_c1
  · exact w_c2
  · exact w_c3
  · exact w_c4
  · exact w_c5
  · exact w_c6
  · exact w_c7
  · exact w_c8
set_option maxRecDepth 65536 in
theorem w_t1 : (words1.take 24).all (fun c => isCode c || c.before args0 about1) = true := by decide +kernel
set_option maxRecDepth 65536 in
theorem w_t2 : (words1.drop 24).all (fun c => isCode c || c.before args0 about1) = true := by decide +kernel
theorem w_tables : (allAtoms (Jvm.Cond.code x code maxLocals ret :: tables_1)).before args0 about1 = true := by
  rw [allAtoms_all]
  show words1.all (fun c => c.before args0 about1) = true
  refine all_split ?_ w_codes
  rw [← List.take_append_drop 24 words1, List.all_append, w_t1, w_t2]
  rfl
set_option maxRecDepth 65536 in
theorem w_case : (Jvm.Cond.and given_1 narrow_1).before args0 about1 = true := by decide +kernel
theorem w_applies : (headSpec (Jvm.Cond.code x code maxLocals ret :: tables_1) room_1).applies x e0.platform about1 = true :=
  (Spec.applies_iff w_frames).mpr ⟨w_running, w_runnable, w_alone, w_named, w_hears, w_ripe, w_room, w_tables⟩
theorem atStart : AtStart classFile x code maxLocals ret World_1 tables_1 room_1 Calls_1 rest_1 Pre_1 launch0 p0 e0 about1 theMethod args0 below0 :=
  ⟨lists_1, trivial, launch0.admits_env _ _ _, launch0.least_env, fairChoices_fair.cas, fairChoices_fair.clock, w_frames, w_args, w_heap, w_applies, trivial, trivial, w_case⟩
end start1
theorem witness_1 : WitnessClaimed_1 := ⟨start1.p0, start1.e0, start1.about1, start1.theMethod, start1.args0, start1.below0, start1.atStart⟩
end Jvm.Pilot.@@N@@
